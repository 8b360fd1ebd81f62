/- The reference's own functions: the shortest push, a number's bytes. -/
import Derived.Test.YtafpgikhcjildaaGreatDoorRead
import Derived.Test.YtafpgikhcjildaaGreatDoorLockGo
import Derived.LoopTactic
import Derived.Deep.LoopGhost
import Derived.WalkArith
namespace Go.Proofs.YtafpgikhcjildaaGreatDoor
open Go.RowKit Go.Proofs

set_option maxRecDepth 100000

theorem least_one (w : World) (b o c y : Nat) (h : w.cell? ⟨b, o, none⟩ = some (.int .u8 y)) (hy : y < 256) (r : Int)
    (hr : r = if 1 ≤ y ∧ y ≤ 16 then 80 + (y : Int) else if y = 129 then 79 else 1) :
    Calls Tryz.prog 18 #[.slice (some ⟨b, o, none⟩) 1 c] w fun e w' => e = .returned (.int .i64 r) ∧ w = w' := by
  rcases (show (1 ≤ y ∧ y ≤ 16) ∨ y = 129 ∨ y = 0 ∨ (17 ≤ y ∧ y ≠ 129) by omega) with h1 | h1 | h1 | h1
  · rw [if_pos h1] at hr
    subst hr
    obtain ⟨ha, hb⟩ := h1
    have ha' : 1 ≤ (y : Int) := by omega
    have hb' : (y : Int) ≤ 16 := by omega
    go_enter Tryz.func18, Tryz.ntmps18
    go_wp2
    go_ret
    exact ⟨rfl, rfl⟩
  · subst h1
    rw [if_neg (by omega), if_pos rfl] at hr
    subst hr
    go_enter Tryz.func18, Tryz.ntmps18
    go_wp2
    go_ret
    exact ⟨rfl, rfl⟩
  · subst h1
    rw [if_neg (by omega), if_neg (by omega)] at hr
    subst hr
    go_enter Tryz.func18, Tryz.ntmps18
    go_wp2
    go_ret
    exact ⟨rfl, rfl⟩
  · rw [if_neg (by omega), if_neg (by omega)] at hr
    subst hr
    obtain ⟨ha, hb⟩ := h1
    have ha' : 17 ≤ (y : Int) := by omega
    have ha3 : 1 ≤ (y : Int) := by omega
    have ha2 : ¬ ((y : Int) ≤ 16) := by omega
    have hb' : ¬ ((y : Int) = 129) := by omega
    have hb2 : ((y : Int) == 129) = false := by simp; omega
    go_enter Tryz.func18, Tryz.ntmps18
    go_wp2
    go_ret
    exact ⟨rfl, rfl⟩

theorem least_none (w : World) (A : Option Addr) (c : Nat) :
    Calls Tryz.prog 18 #[.slice A 0 c] w fun e w' => e = .returned (.int .i64 0) ∧ w = w' := by
  go_enter Tryz.func18, Tryz.ntmps18
  go_wp2
  go_ret
  exact ⟨rfl, rfl⟩

theorem least_many (w : World) (A : Option Addr) (n c : Nat) (h2 : 2 ≤ n) (h75 : n ≤ 75) :
    Calls Tryz.prog 18 #[.slice A n c] w fun e w' => e = .returned (.int .i64 n) ∧ w = w' := by
  have a1 : ¬ ((n : Int) = 0) := by omega
  have a2 : ((n : Int) == 0) = false := by simp; omega
  have a3 : ¬ ((n : Int) = 1) := by omega
  have a4 : ((n : Int) == 1) = false := by simp; omega
  have a5 : (n : Int) < 76 := by omega
  go_enter Tryz.func18, Tryz.ntmps18
  go_wp2
  go_ret
  exact ⟨rfl, rfl⟩

theorem least_any (w : World) (B : Nat) (A : Option Addr) (c : Nat) (d : List UInt8) (h : Rd B w (.slice A d.length c) d) (hn : d.length ≤ 75) :
    Calls Tryz.prog 18 #[.slice A d.length c] w fun e w' => e = .returned (.int .i64 (pushT d).op) ∧ w = w' := by
  match d, h, hn with
  | [], h, hn => exact least_none w A c
  | [x], h, hn =>
    obtain ⟨b, o, rfl, hc⟩ := h.cell (j := 0) (by simp)
    refine least_one w b o c x.toNat hc x.toNat_lt _ ?_
    unfold pushT
    have e : ([x].getD 0 0) = x := rfl
    rw [if_neg (by simp), e]
    by_cases h1 : 1 ≤ x.toNat ∧ x.toNat ≤ 16
    · rw [if_pos ⟨rfl, h1⟩, if_pos h1]
      simp
    · rw [if_neg (fun h => h1 h.2), if_neg h1]
      by_cases h2 : x.toNat = 129
      · rw [if_pos ⟨rfl, h2⟩, if_pos h2]; rfl
      · rw [if_neg (fun h => h2 h.2), if_neg h2, if_pos (by simp)]; rfl
  | x :: y :: r, h, hn =>
    have e : (pushT (x :: y :: r)).op = (x :: y :: r).length := by
      unfold pushT
      rw [if_neg (by simp), if_neg (by simp), if_neg (by simp), if_pos hn]
    rw [e]
    exact least_many w A _ c (by simp) hn

theorem own_one (w : World) (base : Nat) (t : TypeId) (v : Value) (hb : base ≤ w.heap.size) : (w.alloc (.cells #[v] t)).ownsRow base t 1 (.slice (some ⟨w.heap.size, 0, none⟩) 1 1) 1 [v] :=
  ⟨rfl, .inr ⟨w.heap.size, 1, #[v], rfl, hb, heap_alloc_new w _, by omega, by simp [maxLen], rfl, rfl⟩⟩

/-- The shortest push's bytes, where the opcode is all. -/
theorem spush_op (w : World) (A : Option Addr) (n c op : Nat) (h0 : op = 0 ∨ (79 ≤ op ∧ op ≤ 96))
    (hL : Calls Tryz.prog 18 #[.slice A n c] w fun e w' => e = .returned (.int .i64 op) ∧ w = w') :
    Calls Tryz.prog 9 #[.slice A n c] w fun e w' => ∃ A' c', e = .returned (.slice A' 1 c') ∧ w'.ownsRow w.heap.size 5 1 (.slice A' 1 c') 1 [.int .u8 op] ∧ Below w.heap.size w w' := by
  have HL := Lib.hid hL
  clear hL
  have hm : (op : Int) % 256 = op := by omega
  rcases h0 with rfl | ⟨h1, h2⟩
  · go_enter Tryz.func9, Tryz.ntmps9
    go_wp2_with fail
    refine HL.out.mono ?_
    rintro e w1 ⟨rfl, rfl⟩
    go_wp2
    go_ret
    exact ⟨_, _, rfl, own_one w _ _ _ (Nat.le_refl _), (Below.refl _ _).alloc (Nat.le_refl _) _⟩
  · have a1 : ¬ ((op : Int) = 0) := by omega
    have a2 : ((op : Int) == 0) = false := by simp; omega
    have a3 : 79 ≤ (op : Int) := by omega
    have a4 : (op : Int) ≤ 96 := by omega
    go_enter Tryz.func9, Tryz.ntmps9
    go_wp2_with fail
    refine HL.out.mono ?_
    rintro e w1 ⟨rfl, rfl⟩
    go_wp2
    go_ret
    exact ⟨_, _, rfl, own_one w _ _ _ (Nat.le_refl _), (Below.refl _ _).alloc (Nat.le_refl _) _⟩

theorem spush_data (w : World) (B : Nat) (A : Option Addr) (c : Nat) (d : List UInt8) (h1 : 1 ≤ d.length) (h75 : d.length ≤ 75) (hr : Rd B w (.slice A d.length c) d)
    (hL : Calls Tryz.prog 18 #[.slice A d.length c] w fun e w' => e = .returned (.int .i64 d.length) ∧ w = w') :
    Calls Tryz.prog 9 #[.slice A d.length c] w fun e w' => ∃ A' c', e = .returned (.slice A' (1 + d.length) c') ∧ w'.ownsRow w.heap.size 5 1 (.slice A' (1 + d.length) c') (1 + d.length) (.int .u8 d.length :: bv d) ∧ Below w.heap.size w w' := by
  obtain ⟨i0, hi, hz0, hz1, hz2⟩ := info_parts info_u8
  have HL := Lib.hid hL
  have HC := Lib.hid ((Cells.of_rd hr).below ((Below.refl w.heap.size w).alloc (Nat.le_refl _) (.cells #[.int .u8 d.length] 5)))
  have hone : Hid (∀ u ∈ bv d, u.oneCell' = true) := by
    intro u hu
    simp only [bv, List.mem_map] at hu
    obtain ⟨b, _, rfl⟩ := hu
    rfl
  clear hL hr
  generalize d.length = n at *
  have hm : (n : Int) % 256 = n := by omega
  have a1 : ¬ ((n : Int) = 0) := by omega
  have a2 : ((n : Int) == 0) = false := by simp; omega
  have a3 : ¬ (79 ≤ (n : Int)) := by omega
  have a5 : ¬ (76 ≤ (n : Int)) := by omega
  have a4 : (n : Int) ≤ 75 := by omega
  go_enter Tryz.func9, Tryz.ntmps9
  go_wp2_with fail
  refine HL.out.mono ?_
  rintro e w1 ⟨rfl, rfl⟩
  go_wp2
  refine wp_loop_rounds 1 ?_
  rw [rounds_succ]
  go_wp2_with (at_builtin; refine Stop.mk ?_)
  refine Stop.go ?_
  refine wpList_append_cells _ rfl (.tmp 39) (.tmp 40) 24 rfl w.heap.size 5 i0 _ 1 Tryz.underlying24 hi hz0 hz1 hz2 rfl _ 1 [.int .u8 n] rfl (own_one w _ _ _ (Nat.le_refl _)) A n c (bv d) rfl HC.out hone.out (by omega) (by omega) (by simp) ?_
  intro v' w1 hown' hgrow hat
  obtain ⟨A', c', rfl⟩ := own_form hown'
  have HB := Lib.hid (((Below.refl w.heap.size w).alloc (Nat.le_refl _) (.cells #[.int .u8 n] 5)).grown hgrow (by simp) (fun k hk => by injection hk with hk; exact Nat.le_of_eq hk))
  have HO := Lib.hid hown'
  clear hown' hgrow hat
  go_wp2
  go_ret
  exact ⟨_, _, rfl, HO.out, HB.out⟩

/-- A number's shortest push. -/
theorem push_spec (w : World) (B : Nat) (A : Option Addr) (c : Nat) (d : List UInt8) (hd : NumOk d) (h : Rd B w (.slice A d.length c) d) :
    Calls Tryz.prog 9 #[.slice A d.length c] w fun e w' => ∃ A' c', e = .returned (.slice A' (pushT d).enc.length c') ∧
      w'.ownsRow w.heap.size 5 1 (.slice A' (pushT d).enc.length c') (pushT d).enc.length (bv (pushT d).enc) ∧ Below w.heap.size w w' := by
  have hL := least_any w B A c d h (by have := hd.1; omega)
  obtain ⟨h5, hl⟩ := hd
  by_cases h0 : d.length = 0
  · have : d = [] := List.eq_nil_of_length_eq_zero h0
    subst this
    exact spush_op w A 0 c 0 (.inl rfl) hL
  · by_cases h1 : d.length = 1 ∧ 1 ≤ (d.getD 0 0).toNat ∧ (d.getD 0 0).toNat ≤ 16
    · have e : pushT d = ⟨80 + (d.getD 0 0).toNat, []⟩ := by unfold pushT; rw [if_neg h0, if_pos h1]
      have en : (pushT d).enc = [UInt8.ofNat (80 + (d.getD 0 0).toNat)] := by
        rw [e]; unfold Tok.enc
        simp only
        rw [if_neg (by omega), if_neg (by omega), if_neg (by omega), if_neg (by omega)]
      have ev0 : ∀ y : Nat, y ≤ 16 → (UInt8.ofNat (80 + y)).toNat = 80 + y := fun y hy => by simp; omega
      have ev := ev0 _ h1.2.2
      rw [e] at hL
      refine (spush_op w A d.length c (80 + (d.getD 0 0).toNat) (.inr (by omega)) hL).mono ?_
      rintro e w' ⟨A', c', rfl, h2, h3⟩
      rw [en]
      refine ⟨A', c', rfl, ?_, h3⟩
      show w'.ownsRow _ _ _ _ _ [.int .u8 ((UInt8.ofNat (80 + (d.getD 0 0).toNat)).toNat : Int)]
      rw [ev]
      exact h2
    · by_cases h2 : d.length = 1 ∧ (d.getD 0 0).toNat = 129
      · exfalso
        obtain ⟨ha, hb⟩ := h2
        rw [one_byte ha] at hl
        simp at hl
        simp at hb
        omega
      · have e : pushT d = ⟨d.length, d⟩ := by unfold pushT; rw [if_neg h0, if_neg h1, if_neg h2, if_pos (by omega)]
        have en : (pushT d).enc = UInt8.ofNat d.length :: d := by
          rw [e]; unfold Tok.enc
          simp only
          rw [if_neg h0, if_pos (by omega)]
        have ev : (UInt8.ofNat d.length).toNat = d.length := by simp; omega
        rw [e] at hL
        refine (spush_data w B A c d (by omega) (by omega) h hL).mono ?_
        rintro e w' ⟨A', c', rfl, h2, h3⟩
        have el : (UInt8.ofNat d.length :: d).length = 1 + d.length := by simp; omega
        rw [en, el]
        refine ⟨A', c', rfl, ?_, h3⟩
        show w'.ownsRow _ _ _ _ _ (.int .u8 ((UInt8.ofNat d.length).toNat : Int) :: bv d)
        rw [ev]
        exact h2
end Go.Proofs.YtafpgikhcjildaaGreatDoor
