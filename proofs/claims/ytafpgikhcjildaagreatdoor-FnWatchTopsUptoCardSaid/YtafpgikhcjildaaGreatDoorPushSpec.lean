/- The reference's shortest push of whatever bytes. -/
import Derived.Test.YtafpgikhcjildaaGreatDoorSpec
namespace Go.Proofs.YtafpgikhcjildaaGreatDoor
open Go.RowKit Go.Proofs

set_option maxRecDepth 100000

theorem least_long (w : World) (A : Option Addr) (n c : Nat) (op : Int) (h : (76 ≤ n ∧ n ≤ 255 ∧ op = 76) ∨ (256 ≤ n ∧ n ≤ 65535 ∧ op = 77) ∨ (65536 ≤ n ∧ op = 78)) :
    Calls Tryz.prog 18 #[.slice A n c] w fun e w' => e = .returned (.int .i64 op) ∧ w = w' := by
  have a1 : ¬ ((n : Int) = 0) := by omega
  have a2 : ((n : Int) == 0) = false := by simp; omega
  have a3 : ¬ ((n : Int) = 1) := by omega
  have a4 : ((n : Int) == 1) = false := by simp; omega
  have a5 : ¬ ((n : Int) < 76) := by omega
  rcases h with ⟨h1, h2, rfl⟩ | ⟨h1, h2, rfl⟩ | ⟨h1, rfl⟩
  · have a6 : (n : Int) ≤ 255 := by omega
    go_enter Tryz.func18, Tryz.ntmps18
    go_wp2
    go_ret
    exact ⟨rfl, rfl⟩
  · have a6 : ¬ ((n : Int) ≤ 255) := by omega
    have a7 : (n : Int) ≤ 65535 := by omega
    go_enter Tryz.func18, Tryz.ntmps18
    go_wp2
    go_ret
    exact ⟨rfl, rfl⟩
  · have a6 : ¬ ((n : Int) ≤ 255) := by omega
    have a7 : ¬ ((n : Int) ≤ 65535) := by omega
    go_enter Tryz.func18, Tryz.ntmps18
    go_wp2
    go_ret
    exact ⟨rfl, rfl⟩

/-- A number's bytes, the least first, k of them. -/
def lb (n k : Nat) : List UInt8 := (List.range k).map fun j => UInt8.ofNat (n / 256 ^ j)
theorem lb_succ (n k : Nat) : lb n (k + 1) = lb n k ++ [UInt8.ofNat (n / 256 ^ k)] := by simp [lb, List.range_succ]
theorem lb_length (n k : Nat) : (lb n k).length = k := by simp [lb]

/-- The loop's relation. -/
def PdRel (w : World) (op n K : Nat) (k : Nat) (s4 s5 s6 : Value) (wx : World) : Prop :=
  ∃ (i : Nat) (A : Option Addr) (c : Nat), k = K - i + 1 ∧ i ≤ K ∧ s4 = .slice A (1 + i) c ∧ s5 = .int .i64 (n / 256 ^ i : Nat) ∧ s6 = .int .i64 i ∧ wx.ownsRow w.heap.size 5 1 (.slice A (1 + i) c) (1 + i) (.int .u8 op :: bv (lb n i)) ∧ Below w.heap.size w wx

set_option maxHeartbeats 1000000 in
theorem spush_pd76 (w : World) (B : Nat) (A : Option Addr) (c n : Nat) (d : List UInt8) (hdl : d.length = n) (hb : n ≤ 100000000) (hr : Rd B w (.slice A n c) d)
    (hL : Calls Tryz.prog 18 #[.slice A n c] w fun e w' => e = .returned (.int .i64 76) ∧ w = w') :
    Calls Tryz.prog 9 #[.slice A n c] w fun e w' => ∃ A' c', e = .returned (.slice A' (1 + 1 + n) c') ∧ w'.ownsRow w.heap.size 5 1 (.slice A' (1 + 1 + n) c') (1 + 1 + n) (.int .u8 76 :: bv (lb n 1) ++ bv d) ∧ Below w.heap.size w w' := by
  obtain ⟨i0, hi, hz0, hz1, hz2⟩ := info_parts info_u8
  have HL := Lib.hid hL
  have HR := Lib.hid hr
  have hone : Hid (∀ u ∈ bv d, u.oneCell' = true) := by
    intro u hu
    simp only [bv, List.mem_map] at hu
    obtain ⟨b, _, rfl⟩ := hu
    rfl
  have HB0 : Hid (Below w.heap.size w (w.alloc (.cells #[.int .u8 76] 5))) := (Below.refl _ _).alloc (Nat.le_refl _) _
  have HO0 := Lib.hid (own_one w w.heap.size 5 (.int .u8 76) (Nat.le_refl _))
  clear hL hr
  go_enter Tryz.func9, Tryz.ntmps9
  go_wp2_with fail
  refine HL.out.mono ?_
  rintro e w1 ⟨rfl, rfl⟩
  go_wp2
  go_loopg [4, 5, 6] (1 + 1) (fun k s4 s5 s6 wx => PdRel w 76 n 1 k s4 s5 s6 wx)
  case atStart => exact ⟨0, _, _, rfl, Nat.zero_le _, rfl, by simp, rfl, HO0.out, HB0.out⟩
  case round =>
    obtain ⟨i, A1, c1, rfl, hin, rfl, rfl, rfl, hown, hbel⟩ := hrel
    have HO := Lib.hid hown
    have HB := Lib.hid hbel
    clear hown hbel
    generalize hq : n / 256 ^ i = q at *
    have hq0 : (0 : Int) ≤ (q : Int) := by omega
    have hqn : q ≤ 100000000 := by rw [← hq]; exact Nat.le_trans (Nat.div_le_self _ _) hb
    have hqi : (q : Int) ≤ 100000000 := by omega
    by_cases h0 : i = 1
    · subst h0
      go_wp2_with (at_builtin; refine Stop.mk ?_)
      refine Stop.go ?_
      refine wpList_append_cells _ rfl (.tmp 39) (.tmp 40) 24 rfl w.heap.size 5 i0 _ 1 Tryz.underlying24 hi hz0 hz1 hz2 rfl _ (1 + 1) (.int .u8 76 :: bv (lb n 1)) rfl HO.out A n c (bv d) rfl (Cells.of_rd (HR.out.below HB.out)) hone.out (by omega) (by omega) HB.out.size ?_
      intro v' w2 hown' hgrow hat
      obtain ⟨A', c', rfl⟩ := own_form hown'
      have HB2 := Lib.hid (HB.out.grown hgrow HB.out.size (fun k hk => (HO.out.lt k hk).1))
      have HO2 := Lib.hid hown'
      clear hown' hgrow hat
      go_wp2
      go_ret
      exact ⟨_, _, rfl, HO2.out, HB2.out⟩
    · have h1 : (i : Int) < 1 := by omega
      have h1' : i < 1 := by omega
      have hi4 : (i : Int) ≤ 8 := by omega
      have hi00 : (0 : Int) ≤ (i : Int) := by omega
      have hlb : bv (lb n (i + 1)) = bv (lb n i) ++ [.int .u8 (q % 256 : Int)] := by
        rw [lb_succ, bv_append, hq]
        have : ((UInt8.ofNat q).toNat : Int) = (q : Int) % 256 := by simp
        simp [bv]
      have HLB := Lib.hid hlb
      have hba : Below wr.heap.size wr (wr.alloc (.cells #[.int .u8 (q % 256 : Int)] 5)) := (Below.refl _ _).alloc (Nat.le_refl _) _
      have HBA := Lib.hid hba
      have hdiv : (q : Int) / 256 = ((n / 256 ^ (i + 1) : Nat) : Int) := by
        rw [Nat.pow_succ, ← Nat.div_div_eq_div_mul, hq]
        omega
      have HDIV := Lib.hid hdiv
      clear hlb hba hdiv
      go_wp2_with (at_builtin; refine Stop.mk ?_)
      refine Stop.go ?_
      refine wpList_append_cells _ rfl (.tmp 32) (.tmp 35) 24 rfl w.heap.size 5 i0 _ 1 Tryz.underlying24 hi hz0 hz1 hz2 rfl (.slice A1 (1 + i) c1) (1 + i) (.int .u8 76 :: bv (lb n i)) rfl (own_below HO.out HBA.out) (some ⟨wr.heap.size, 0, none⟩) 1 1 [.int .u8 (q % 256 : Int)] rfl (Cells.one wr _ _) (by intro u hu; simp at hu; subst hu; rfl) (by omega) (by omega) (by have := HB.out.size; simp; omega) ?_
      intro v' w2 hown' hgrow hat
      obtain ⟨A', c', rfl⟩ := own_form hown'
      have HB2 := Lib.hid ((HB.out.alloc HB.out.size _).grown hgrow (by have := HB.out.size; simp; omega) (fun k hk => ((own_below HO.out HBA.out).lt k hk).1))
      have HO2 := Lib.hid hown'
      clear hown' hgrow hat
      go_wp2_with fail
      have hw2 : (i : Int) + 1 = ((i + 1 : Nat) : Int) := by omega
      go_roundg (1 - (i + 1) + 1)
      case measure => omega
      case rel =>
        refine ⟨i + 1, A', c', rfl, by omega, rfl, ?_, ?_, ?_, HB2.out⟩
        · rw [← HDIV.out]
        · rw [← hw2]
        · rw [HLB.out]
          exact HO2.out

set_option maxHeartbeats 1000000 in
theorem spush_pd77 (w : World) (B : Nat) (A : Option Addr) (c n : Nat) (d : List UInt8) (hdl : d.length = n) (hb : n ≤ 100000000) (hr : Rd B w (.slice A n c) d)
    (hL : Calls Tryz.prog 18 #[.slice A n c] w fun e w' => e = .returned (.int .i64 77) ∧ w = w') :
    Calls Tryz.prog 9 #[.slice A n c] w fun e w' => ∃ A' c', e = .returned (.slice A' (1 + 2 + n) c') ∧ w'.ownsRow w.heap.size 5 1 (.slice A' (1 + 2 + n) c') (1 + 2 + n) (.int .u8 77 :: bv (lb n 2) ++ bv d) ∧ Below w.heap.size w w' := by
  obtain ⟨i0, hi, hz0, hz1, hz2⟩ := info_parts info_u8
  have HL := Lib.hid hL
  have HR := Lib.hid hr
  have hone : Hid (∀ u ∈ bv d, u.oneCell' = true) := by
    intro u hu
    simp only [bv, List.mem_map] at hu
    obtain ⟨b, _, rfl⟩ := hu
    rfl
  have HB0 : Hid (Below w.heap.size w (w.alloc (.cells #[.int .u8 77] 5))) := (Below.refl _ _).alloc (Nat.le_refl _) _
  have HO0 := Lib.hid (own_one w w.heap.size 5 (.int .u8 77) (Nat.le_refl _))
  clear hL hr
  go_enter Tryz.func9, Tryz.ntmps9
  go_wp2_with fail
  refine HL.out.mono ?_
  rintro e w1 ⟨rfl, rfl⟩
  go_wp2
  go_loopg [4, 5, 6] (2 + 1) (fun k s4 s5 s6 wx => PdRel w 77 n 2 k s4 s5 s6 wx)
  case atStart => exact ⟨0, _, _, rfl, Nat.zero_le _, rfl, by simp, rfl, HO0.out, HB0.out⟩
  case round =>
    obtain ⟨i, A1, c1, rfl, hin, rfl, rfl, rfl, hown, hbel⟩ := hrel
    have HO := Lib.hid hown
    have HB := Lib.hid hbel
    clear hown hbel
    generalize hq : n / 256 ^ i = q at *
    have hq0 : (0 : Int) ≤ (q : Int) := by omega
    have hqn : q ≤ 100000000 := by rw [← hq]; exact Nat.le_trans (Nat.div_le_self _ _) hb
    have hqi : (q : Int) ≤ 100000000 := by omega
    by_cases h0 : i = 2
    · subst h0
      go_wp2_with (at_builtin; refine Stop.mk ?_)
      refine Stop.go ?_
      refine wpList_append_cells _ rfl (.tmp 39) (.tmp 40) 24 rfl w.heap.size 5 i0 _ 1 Tryz.underlying24 hi hz0 hz1 hz2 rfl _ (1 + 2) (.int .u8 77 :: bv (lb n 2)) rfl HO.out A n c (bv d) rfl (Cells.of_rd (HR.out.below HB.out)) hone.out (by omega) (by omega) HB.out.size ?_
      intro v' w2 hown' hgrow hat
      obtain ⟨A', c', rfl⟩ := own_form hown'
      have HB2 := Lib.hid (HB.out.grown hgrow HB.out.size (fun k hk => (HO.out.lt k hk).1))
      have HO2 := Lib.hid hown'
      clear hown' hgrow hat
      go_wp2
      go_ret
      exact ⟨_, _, rfl, HO2.out, HB2.out⟩
    · have h1 : (i : Int) < 2 := by omega
      have h1' : i < 2 := by omega
      have hi4 : (i : Int) ≤ 8 := by omega
      have hi00 : (0 : Int) ≤ (i : Int) := by omega
      have hlb : bv (lb n (i + 1)) = bv (lb n i) ++ [.int .u8 (q % 256 : Int)] := by
        rw [lb_succ, bv_append, hq]
        have : ((UInt8.ofNat q).toNat : Int) = (q : Int) % 256 := by simp
        simp [bv]
      have HLB := Lib.hid hlb
      have hba : Below wr.heap.size wr (wr.alloc (.cells #[.int .u8 (q % 256 : Int)] 5)) := (Below.refl _ _).alloc (Nat.le_refl _) _
      have HBA := Lib.hid hba
      have hdiv : (q : Int) / 256 = ((n / 256 ^ (i + 1) : Nat) : Int) := by
        rw [Nat.pow_succ, ← Nat.div_div_eq_div_mul, hq]
        omega
      have HDIV := Lib.hid hdiv
      clear hlb hba hdiv
      go_wp2_with (at_builtin; refine Stop.mk ?_)
      refine Stop.go ?_
      refine wpList_append_cells _ rfl (.tmp 32) (.tmp 35) 24 rfl w.heap.size 5 i0 _ 1 Tryz.underlying24 hi hz0 hz1 hz2 rfl (.slice A1 (1 + i) c1) (1 + i) (.int .u8 77 :: bv (lb n i)) rfl (own_below HO.out HBA.out) (some ⟨wr.heap.size, 0, none⟩) 1 1 [.int .u8 (q % 256 : Int)] rfl (Cells.one wr _ _) (by intro u hu; simp at hu; subst hu; rfl) (by omega) (by omega) (by have := HB.out.size; simp; omega) ?_
      intro v' w2 hown' hgrow hat
      obtain ⟨A', c', rfl⟩ := own_form hown'
      have HB2 := Lib.hid ((HB.out.alloc HB.out.size _).grown hgrow (by have := HB.out.size; simp; omega) (fun k hk => ((own_below HO.out HBA.out).lt k hk).1))
      have HO2 := Lib.hid hown'
      clear hown' hgrow hat
      go_wp2_with fail
      have hw2 : (i : Int) + 1 = ((i + 1 : Nat) : Int) := by omega
      go_roundg (2 - (i + 1) + 1)
      case measure => omega
      case rel =>
        refine ⟨i + 1, A', c', rfl, by omega, rfl, ?_, ?_, ?_, HB2.out⟩
        · rw [← HDIV.out]
        · rw [← hw2]
        · rw [HLB.out]
          exact HO2.out

set_option maxHeartbeats 1000000 in
theorem spush_pd78 (w : World) (B : Nat) (A : Option Addr) (c n : Nat) (d : List UInt8) (hdl : d.length = n) (hb : n ≤ 100000000) (hr : Rd B w (.slice A n c) d)
    (hL : Calls Tryz.prog 18 #[.slice A n c] w fun e w' => e = .returned (.int .i64 78) ∧ w = w') :
    Calls Tryz.prog 9 #[.slice A n c] w fun e w' => ∃ A' c', e = .returned (.slice A' (1 + 4 + n) c') ∧ w'.ownsRow w.heap.size 5 1 (.slice A' (1 + 4 + n) c') (1 + 4 + n) (.int .u8 78 :: bv (lb n 4) ++ bv d) ∧ Below w.heap.size w w' := by
  obtain ⟨i0, hi, hz0, hz1, hz2⟩ := info_parts info_u8
  have HL := Lib.hid hL
  have HR := Lib.hid hr
  have hone : Hid (∀ u ∈ bv d, u.oneCell' = true) := by
    intro u hu
    simp only [bv, List.mem_map] at hu
    obtain ⟨b, _, rfl⟩ := hu
    rfl
  have HB0 : Hid (Below w.heap.size w (w.alloc (.cells #[.int .u8 78] 5))) := (Below.refl _ _).alloc (Nat.le_refl _) _
  have HO0 := Lib.hid (own_one w w.heap.size 5 (.int .u8 78) (Nat.le_refl _))
  clear hL hr
  go_enter Tryz.func9, Tryz.ntmps9
  go_wp2_with fail
  refine HL.out.mono ?_
  rintro e w1 ⟨rfl, rfl⟩
  go_wp2
  go_loopg [4, 5, 6] (4 + 1) (fun k s4 s5 s6 wx => PdRel w 78 n 4 k s4 s5 s6 wx)
  case atStart => exact ⟨0, _, _, rfl, Nat.zero_le _, rfl, by simp, rfl, HO0.out, HB0.out⟩
  case round =>
    obtain ⟨i, A1, c1, rfl, hin, rfl, rfl, rfl, hown, hbel⟩ := hrel
    have HO := Lib.hid hown
    have HB := Lib.hid hbel
    clear hown hbel
    generalize hq : n / 256 ^ i = q at *
    have hq0 : (0 : Int) ≤ (q : Int) := by omega
    have hqn : q ≤ 100000000 := by rw [← hq]; exact Nat.le_trans (Nat.div_le_self _ _) hb
    have hqi : (q : Int) ≤ 100000000 := by omega
    by_cases h0 : i = 4
    · subst h0
      go_wp2_with (at_builtin; refine Stop.mk ?_)
      refine Stop.go ?_
      refine wpList_append_cells _ rfl (.tmp 39) (.tmp 40) 24 rfl w.heap.size 5 i0 _ 1 Tryz.underlying24 hi hz0 hz1 hz2 rfl _ (1 + 4) (.int .u8 78 :: bv (lb n 4)) rfl HO.out A n c (bv d) rfl (Cells.of_rd (HR.out.below HB.out)) hone.out (by omega) (by omega) HB.out.size ?_
      intro v' w2 hown' hgrow hat
      obtain ⟨A', c', rfl⟩ := own_form hown'
      have HB2 := Lib.hid (HB.out.grown hgrow HB.out.size (fun k hk => (HO.out.lt k hk).1))
      have HO2 := Lib.hid hown'
      clear hown' hgrow hat
      go_wp2
      go_ret
      exact ⟨_, _, rfl, HO2.out, HB2.out⟩
    · have h1 : (i : Int) < 4 := by omega
      have h1' : i < 4 := by omega
      have hi4 : (i : Int) ≤ 8 := by omega
      have hi00 : (0 : Int) ≤ (i : Int) := by omega
      have hlb : bv (lb n (i + 1)) = bv (lb n i) ++ [.int .u8 (q % 256 : Int)] := by
        rw [lb_succ, bv_append, hq]
        have : ((UInt8.ofNat q).toNat : Int) = (q : Int) % 256 := by simp
        simp [bv]
      have HLB := Lib.hid hlb
      have hba : Below wr.heap.size wr (wr.alloc (.cells #[.int .u8 (q % 256 : Int)] 5)) := (Below.refl _ _).alloc (Nat.le_refl _) _
      have HBA := Lib.hid hba
      have hdiv : (q : Int) / 256 = ((n / 256 ^ (i + 1) : Nat) : Int) := by
        rw [Nat.pow_succ, ← Nat.div_div_eq_div_mul, hq]
        omega
      have HDIV := Lib.hid hdiv
      clear hlb hba hdiv
      go_wp2_with (at_builtin; refine Stop.mk ?_)
      refine Stop.go ?_
      refine wpList_append_cells _ rfl (.tmp 32) (.tmp 35) 24 rfl w.heap.size 5 i0 _ 1 Tryz.underlying24 hi hz0 hz1 hz2 rfl (.slice A1 (1 + i) c1) (1 + i) (.int .u8 78 :: bv (lb n i)) rfl (own_below HO.out HBA.out) (some ⟨wr.heap.size, 0, none⟩) 1 1 [.int .u8 (q % 256 : Int)] rfl (Cells.one wr _ _) (by intro u hu; simp at hu; subst hu; rfl) (by omega) (by omega) (by have := HB.out.size; simp; omega) ?_
      intro v' w2 hown' hgrow hat
      obtain ⟨A', c', rfl⟩ := own_form hown'
      have HB2 := Lib.hid ((HB.out.alloc HB.out.size _).grown hgrow (by have := HB.out.size; simp; omega) (fun k hk => ((own_below HO.out HBA.out).lt k hk).1))
      have HO2 := Lib.hid hown'
      clear hown' hgrow hat
      go_wp2_with fail
      have hw2 : (i : Int) + 1 = ((i + 1 : Nat) : Int) := by omega
      go_roundg (4 - (i + 1) + 1)
      case measure => omega
      case rel =>
        refine ⟨i + 1, A', c', rfl, by omega, rfl, ?_, ?_, ?_, HB2.out⟩
        · rw [← HDIV.out]
        · rw [← hw2]
        · rw [HLB.out]
          exact HO2.out

/-- spec.Push: bytes of its own, hardly more than came in; the shortest push, where the bytes are few. -/
theorem spush_any (w : World) (B : Nat) (A : Option Addr) (c : Nat) (d : List UInt8) (hd : d.length ≤ 100000000) (h : Rd B w (.slice A d.length c) d) :
    Calls Tryz.prog 9 #[.slice A d.length c] w fun e w' => ∃ A' c' es, e = .returned (.slice A' es.length c') ∧ w'.ownsRow w.heap.size 5 1 (.slice A' es.length c') es.length (bv es) ∧ es.length ≤ d.length + 5 ∧ (d.length ≤ 65535 → es = (pushT d).enc) ∧ Below w.heap.size w w' := by
  by_cases h75 : d.length ≤ 75
  · have hL := least_any w B A c d h h75
    by_cases h0 : d.length = 0
    · have : d = [] := List.eq_nil_of_length_eq_zero h0
      subst this
      refine (spush_op w A 0 c 0 (.inl rfl) hL).mono ?_
      rintro e w' ⟨A', c', rfl, h2, h3⟩
      exact ⟨A', c', [0], rfl, h2, by simp, fun _ => rfl, h3⟩
    · by_cases h1 : d.length = 1 ∧ 1 ≤ (d.getD 0 0).toNat ∧ (d.getD 0 0).toNat ≤ 16
      · have e : pushT d = ⟨80 + (d.getD 0 0).toNat, []⟩ := by unfold pushT; rw [if_neg h0, if_pos h1]
        have en : (pushT d).enc = [UInt8.ofNat (80 + (d.getD 0 0).toNat)] := by
          rw [e]; unfold Tok.enc
          simp only
          rw [if_neg (by omega), if_neg (by omega), if_neg (by omega), if_neg (by omega)]
        have ev0 : ∀ y : Nat, y ≤ 16 → (UInt8.ofNat (80 + y)).toNat = 80 + y := fun y hy => by simp; omega
        have ev := ev0 _ h1.2.2
        rw [e] at hL
        refine (spush_op w A d.length c (80 + (d.getD 0 0).toNat) (.inr (by omega)) hL).mono ?_
        rintro e w' ⟨A', c', rfl, h2, h3⟩
        refine ⟨A', c', (pushT d).enc, by rw [en]; rfl, ?_, by rw [en]; simp, fun _ => rfl, h3⟩
        rw [en]
        show w'.ownsRow _ _ _ _ _ [.int .u8 ((UInt8.ofNat (80 + (d.getD 0 0).toNat)).toNat : Int)]
        rw [ev]
        exact h2
      · by_cases h2 : d.length = 1 ∧ (d.getD 0 0).toNat = 129
        · have e : pushT d = ⟨79, []⟩ := by unfold pushT; rw [if_neg h0, if_neg h1, if_pos h2]
          rw [e] at hL
          refine (spush_op w A d.length c 79 (.inr (by omega)) hL).mono ?_
          rintro e' w' ⟨A', c', rfl, h2, h3⟩
          exact ⟨A', c', (pushT d).enc, by rw [e]; rfl, by rw [e]; exact h2, by rw [e]; simp [Tok.enc], fun _ => rfl, h3⟩
        · have e : pushT d = ⟨d.length, d⟩ := by unfold pushT; rw [if_neg h0, if_neg h1, if_neg h2, if_pos (by omega)]
          have en : (pushT d).enc = UInt8.ofNat d.length :: d := by
            rw [e]; unfold Tok.enc
            simp only
            rw [if_neg h0, if_pos (by omega)]
          have ev : (UInt8.ofNat d.length).toNat = d.length := by simp; omega
          rw [e] at hL
          refine (spush_data w B A c d (by omega) (by omega) h hL).mono ?_
          rintro e w' ⟨A', c', rfl, h2, h3⟩
          have el : (UInt8.ofNat d.length :: d).length = 1 + d.length := by simp; omega
          refine ⟨A', c', (pushT d).enc, by rw [en, el], ?_, by rw [en, el]; omega, fun _ => rfl, h3⟩
          rw [en, el]
          show w'.ownsRow _ _ _ _ _ (.int .u8 ((UInt8.ofNat d.length).toNat : Int) :: bv d)
          rw [ev]
          exact h2
  · have h0 : ¬ d.length = 0 := by omega
    have h1 : ¬ (d.length = 1 ∧ 1 ≤ (d.getD 0 0).toNat ∧ (d.getD 0 0).toNat ≤ 16) := fun h => by omega
    have h2 : ¬ (d.length = 1 ∧ (d.getD 0 0).toNat = 129) := fun h => by omega
    by_cases h255 : d.length ≤ 255
    · refine (spush_pd76 w B A c d.length d rfl hd h (least_long w A _ c 76 (.inl ⟨by omega, h255, rfl⟩))).mono ?_
      rintro e w' ⟨A', c', rfl, h3, h4⟩
      have e : pushT d = ⟨76, d⟩ := by unfold pushT; rw [if_neg h0, if_neg h1, if_neg h2, if_neg h75, if_pos h255]
      have en : (pushT d).enc = 76 :: lb d.length 1 ++ d := by
        rw [e]; unfold Tok.enc
        rw [if_neg (by simp), if_neg (by simp), if_pos rfl]
        simp [lb, List.range_succ]
      refine ⟨A', c', (pushT d).enc, ?_, ?_, by rw [en]; simp [lb_length]; omega, fun _ => rfl, h4⟩
      · rw [en]; simp [lb_length]; omega
      · have el : (pushT d).enc.length = 1 + 1 + d.length := by rw [en]; simp [lb_length]; omega
        rw [el, en, bv_append]
        exact h3
    · by_cases h65 : d.length ≤ 65535
      · refine (spush_pd77 w B A c d.length d rfl hd h (least_long w A _ c 77 (.inr (.inl ⟨by omega, h65, rfl⟩)))).mono ?_
        rintro e w' ⟨A', c', rfl, h3, h4⟩
        have e : pushT d = ⟨77, d⟩ := by unfold pushT; rw [if_neg h0, if_neg h1, if_neg h2, if_neg h75, if_neg h255]
        have en : (pushT d).enc = 77 :: lb d.length 2 ++ d := by
          rw [e]; unfold Tok.enc
          rw [if_neg (by simp), if_neg (by simp), if_neg (by simp), if_pos rfl]
          have e1 : UInt8.ofNat (d.length % 256) = UInt8.ofNat d.length := by
            apply UInt8.toNat_inj.1
            simp
          simp [lb, List.range_succ, e1]
        refine ⟨A', c', (pushT d).enc, ?_, ?_, by rw [en]; simp [lb_length]; omega, fun _ => rfl, h4⟩
        · rw [en]; simp [lb_length]; omega
        · have el : (pushT d).enc.length = 1 + 2 + d.length := by rw [en]; simp [lb_length]; omega
          rw [el, en, bv_append]
          exact h3
      · refine (spush_pd78 w B A c d.length d rfl hd h (least_long w A _ c 78 (.inr (.inr ⟨by omega, rfl⟩)))).mono ?_
        rintro e w' ⟨A', c', rfl, h3, h4⟩
        have el : (78 :: lb d.length 4 ++ d).length = 1 + 4 + d.length := by simp [lb_length]; omega
        refine ⟨A', c', 78 :: lb d.length 4 ++ d, by rw [el], ?_, by rw [el]; omega, fun h => by omega, h4⟩
        rw [el, bv_append]
        exact h3
end Go.Proofs.YtafpgikhcjildaaGreatDoor
