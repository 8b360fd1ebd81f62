/- A number's bytes by the reference. -/
import Derived.Test.YtfjnhnfghhaehaaGreatDoorSpec
import Derived.Deep.Cut
namespace Go.Proofs.YtfjnhnfghhaehaaGreatDoor
open Go.RowKit Go.Proofs

set_option maxRecDepth 100000

theorem leB_pos (m : Nat) (h : 0 < m) : leB m = UInt8.ofNat (m % 256) :: leB (m / 256) := by
  rw [leB, dif_neg (by omega)]

theorem numBytes_zero (w : World) :
    Calls Tryz.prog 5 #[.int .i64 0] w fun e w' => e = .returned (.slice none 0 0) ∧ w = w' := by
  go_enter Tryz.func5, Tryz.ntmps5
  go_wp2
  go_ret
  exact ⟨rfl, rfl⟩

/-- The loop's relation. -/
def NbRel (w : World) (q : Nat) (k : Nat) (s3 s4 : Value) (wx : World) : Prop :=
  ∃ (m : Nat) (done : List UInt8) (A : Option Addr) (c : Nat), k = (leB m).length + 1 ∧ m ≤ q ∧ s3 = .int .u64 m ∧ s4 = .slice A done.length c ∧ done ++ leB m = leB q ∧
      wx.ownsRow w.heap.size 5 1 (.slice A done.length c) done.length (bv done) ∧ Below w.heap.size w wx

set_option maxHeartbeats 1000000 in
theorem numBytes_any (w : World) (q : Nat) (hq : 0 < q) (hq2 : q < 549755813888) :
    Calls Tryz.prog 5 #[.int .i64 q] w fun e w' => ∃ A c, e = .returned (.slice A (numB q).length c) ∧ w'.ownsRow w.heap.size 5 1 (.slice A (numB q).length c) (numB q).length (bv (numB q)) ∧ Below w.heap.size w w' := by
  obtain ⟨i0, hi, hz0, hz1, hz2⟩ := info_parts info_u8
  have a1 : ¬ ((q : Int) = 0) := by omega
  have a2 : ((q : Int) == 0) = false := by simp; omega
  have a3 : ¬ ((q : Int) < 0) := by omega
  have a4 : (q : Int) < 549755813888 := by omega
  have a5 : 0 ≤ (q : Int) := by omega
  have a6 : IntKind.u64.wrap (q : Int) = q := by rw [IntKind.wrap_u64]; omega
  have hlq : (leB q).length ≤ 5 := leB_length 5 q (by omega)
  have HLQ := Lib.hid hlq
  have HQ := Lib.hid hq
  have HQ2 := Lib.hid hq2
  clear hlq hq hq2
  go_enter Tryz.func5, Tryz.ntmps5
  go_wp2
  go_loopg [3, 4] ((leB q).length + 1) (fun k s3 s4 wx => NbRel w q k s3 s4 wx)
  case atStart => exact ⟨q, [], none, 0, rfl, Nat.le_refl _, rfl, rfl, rfl, ⟨rfl, .inl ⟨rfl, rfl⟩⟩, Below.refl _ _⟩
  case round =>
    obtain ⟨m, done, A, c, rfl, hm, rfl, rfl, hcat, hown, hbel⟩ := hrel
    generalize hlm : (leB m).length = lm at *
    have HLM := Lib.hid hlm
    clear hlm
    have HC := Lib.hid hcat
    have HO := Lib.hid hown
    have HB := Lib.hid hbel
    have hdl : done.length ≤ 5 := by
      have := congrArg List.length hcat
      have h5 := HLQ.out
      simp at this
      omega
    clear hcat hown hbel a6 a2 a1
    by_cases h0 : m = 0
    · subst h0
      have hl0 : leB 0 = [] := by rw [leB, dif_pos rfl]
      have hdone : done = leB q := by have := HC.out; rw [hl0, List.append_nil] at this; exact this
      have hne : leB q ≠ [] := by rw [leB_pos q HQ.out]; simp
      obtain ⟨its, x, hx⟩ : ∃ its x, leB q = its ++ [x] := ⟨(leB q).dropLast, (leB q).getLast hne, (List.dropLast_concat_getLast hne).symm⟩
      have hown := HO.out
      have hlen : done.length = its.length + 1 := by rw [hdone, hx]; simp
      have hbv : bv done = bv its ++ [.int .u8 x.toNat] := by rw [hdone, hx, bv_append]; rfl
      have hlast : (leB q).getLastD 0 = x := by rw [hx]; simp
      have hnum : numB q = if 128 ≤ x.toNat then its ++ [x] ++ [0] else its ++ [x] := by unfold numB; rw [hlast, hx]
      rw [hlen, hbv] at hown
      rw [hlen] at hdl
      rw [hlen]
      have hil : (bv its).length = its.length := bv_length its
      have HNUM := Lib.hid hnum
      clear hnum hlast hbv hdone hx hne hl0 HC HO HLM hlen
      generalize hk : its.length = k at *
      have HK := Lib.hid hk
      clear hk
      obtain ⟨g, cap, hform, hbg, hlt⟩ := hown.form (by omega)
      injection hform with e1 e2 e3
      subst e1; subst e3
      have hcell : wr.cell? ⟨g, k, none⟩ = some (.int .u8 x.toNat) := by
        have := hown.cells (g := g) rfl k (.int .u8 x.toNat) (by rw [List.getElem?_append_right (by omega)]; simp [hil])
        rwa [addr_add, Nat.zero_add] at this
      have hx256 := x.toNat_lt
      have HO := Lib.hid hown
      have hk4 : (k : Int) ≤ 4 := by omega
      have hk0 : 0 ≤ (k : Int) := by omega
      have HXB : Hid (bv [x] = [.int .u8 x.toNat]) := rfl
      generalize hy : x.toNat = y at *
      have HY := Lib.hid hy
      clear hy hown hil hdl hbg hlt
      have z0 : ((0 : Nat) : Int) = 0 := rfl
      rw [z0]
      clear z0
      by_cases h128 : 128 ≤ y
      · have b1 : 128 ≤ (y : Int) := by omega
        have HY8 := Lib.hid h128
        go_wp2_with (at_builtin; refine Stop.mk ?_)
        refine Stop.go ?_
        have hone : ∀ u ∈ [Value.int .u8 0], u.oneCell' = true := by intro u hu; simp at hu; subst hu; rfl
        refine wpList_append_cells _ rfl (.tmp 29) (.tmp 30) 23 rfl w.heap.size 5 i0 _ 1 Tryz.underlying23 hi hz0 hz1 hz2 rfl (.slice (some ⟨g, 0, none⟩) (k + 1) c) (k + 1) (bv its ++ [.int .u8 y]) rfl (HO.out.alloc _) (some ⟨wr.heap.size, 0, none⟩) 1 1 [.int .u8 0] rfl (Cells.one wr _ _) hone (by omega) (by omega) (by have := HB.out.size; simp; omega) ?_
        intro v' w1 hown' hgrow hat
        obtain ⟨A', c', rfl⟩ := own_form hown'
        have HO2 := Lib.hid hown'
        have HB2 := Lib.hid ((HB.out.alloc HB.out.size (.cells #[.int .u8 0] 5)).grown hgrow (by have := HB.out.size; simp; omega) (fun k' hk => by
          rcases HO.out.2 with ⟨e, _⟩ | ⟨g', cap, cur, e, hbg, _⟩
          · rw [e] at hk; simp [Value.ownBlock] at hk
          · rw [e] at hk
            have hk' : g' = k' := by simpa [Value.ownBlock] using hk
            omega))
        clear hown' hgrow hat hone hcell a4 b1 h128
        go_upto_if 33 with fail
        have B6 : decide ((q : Int) < 0) = false := by simp
        rw [B6]
        clear B6
        go_wp2
        go_ret
        have hn := HNUM.out
        rw [if_pos HY8.out] at hn
        have hl : (numB q).length = k + 1 + 1 := by rw [hn, List.length_append, List.length_append, HK.out]; rfl
        rw [hl, hn, bv_append, bv_append, HXB.out]
        exact ⟨_, _, rfl, HO2.out, HB2.out⟩
      · have b1 : ¬ (128 ≤ (y : Int)) := by omega
        have b4 : ¬ (128 ≤ y) := h128
        have B5 : Hid (decide ((128 : Int) ≤ (y : Int)) = false) := by show _ = _; simp; omega
        have HY8 := Lib.hid h128
        clear b1 b4 h128 a4
        go_upto_if 28 with fail
        rw [B5.out]
        go_upto_if 33 with fail
        have B6 : decide ((q : Int) < 0) = false := by simp
        rw [B6]
        clear B6
        go_wp2
        go_ret
        have hn := HNUM.out
        rw [if_neg HY8.out] at hn
        have hl : (numB q).length = k + 1 := by rw [hn, List.length_append, HK.out]; rfl
        rw [hl, hn, bv_append, HXB.out]
        exact ⟨_, _, rfl, HO.out, HB.out⟩
    · have b1 : 0 < (m : Int) := by omega
      have b2 : (m : Int) < 549755813888 := by omega
      have b3 : 0 ≤ (m : Int) := by omega
      have HP := Lib.hid (show 0 < m by omega)
      generalize hdn : done.length = dn at *
      have HDN := Lib.hid hdn
      clear hdn
      have HN : Hid (dn + 1 ≤ 140737488355328) := show dn + 1 ≤ 140737488355328 by omega
      have HD5 := Lib.hid hdl
      clear hdl
      have HM := Lib.hid hm
      clear hm h0 a3 a4 a5
      have b4 : 0 < m := HP.out
      go_wp2_with (at_builtin; refine Stop.mk ?_)
      refine Stop.go ?_
      have hone : ∀ u ∈ [Value.int .u8 ((m : Int) % 256)], u.oneCell' = true := by intro u hu; simp at hu; subst hu; rfl
      refine wpList_append_cells _ rfl (.tmp 15) (.tmp 18) 23 rfl w.heap.size 5 i0 _ 1 Tryz.underlying23 hi hz0 hz1 hz2 rfl (.slice A dn c) dn (bv done) rfl (HO.out.alloc _) (some ⟨wr.heap.size, 0, none⟩) 1 1 [.int .u8 ((m : Int) % 256)] rfl (Cells.one wr _ _) hone (by have := HN.out; omega) (by omega) (by have := HB.out.size; simp; omega) ?_
      intro v' w1 hown' hgrow hat
      obtain ⟨A', c', rfl⟩ := own_form hown'
      have HO2 := Lib.hid hown'
      have HB2 := Lib.hid ((HB.out.alloc HB.out.size (.cells #[.int .u8 ((m : Int) % 256)] 5)).grown hgrow (by have := HB.out.size; simp; omega) (fun k hk => by
        rcases HO.out.2 with ⟨e, _⟩ | ⟨g', cap, cur, e, hbg, _⟩
        · rw [e] at hk; simp [Value.ownBlock] at hk
        · rw [e] at hk
          have hk' : g' = k := by simpa [Value.ownBlock] using hk
          omega))
      clear hown' hgrow hat hone
      go_wp2
      go_roundg ((leB (m / 256)).length + 1)
      case measure =>
        have h1 := HLM.out
        rw [leB_pos m HP.out] at h1
        simp at h1
        omega
      case rel =>
        refine ⟨m / 256, done ++ [UInt8.ofNat (m % 256)], A', c', rfl, by have := HM.out; omega, by go_num, ?_, ?_, ?_, HB2.out⟩
        · rw [← HDN.out]; simp
        · rw [← HC.out, leB_pos m HP.out]; simp
        · have ev : bv [UInt8.ofNat (m % 256)] = [.int .u8 ((m : Int) % 256)] := by
            have : m % 256 % 256 = m % 256 := by omega
            simp [bv, this]
          have hl : (done ++ [UInt8.ofNat (m % 256)]).length = dn + 1 := by rw [← HDN.out]; simp
          rw [bv_append, ev, hl]
          exact HO2.out

theorem leB_len_last (n : Nat) (h : n < 549755813888) : (leB n).length ≤ 4 ∨ ((leB n).length = 5 ∧ ((leB n).getLastD 0).toNat < 128) := by
  by_cases h4 : n < 4294967296
  · exact .inl (leB_length 4 n (by omega))
  · right
    rw [leB_pos n (by omega), leB_pos (n / 256) (by omega), leB_pos (n / 256 / 256) (by omega), leB_pos (n / 256 / 256 / 256) (by omega), leB_pos (n / 256 / 256 / 256 / 256) (by omega)]
    have h0 : n / 256 / 256 / 256 / 256 / 256 = 0 := by omega
    have hz : leB 0 = [] := by rw [leB, dif_pos rfl]
    rw [h0, hz]
    refine ⟨rfl, ?_⟩
    show (UInt8.ofNat (n / 256 / 256 / 256 / 256 % 256)).toNat < 128
    simp
    omega

theorem numOk_numB (n : Nat) (h : n < 549755813888) : NumOk (numB n) := by
  unfold NumOk numB
  rcases leB_len_last n h with h1 | ⟨h1, h2⟩
  · split
    · refine ⟨by simp; omega, by simp⟩
    · rename_i h3
      exact ⟨by omega, by omega⟩
  · rw [if_neg (by omega)]
    exact ⟨by omega, h2⟩
end Go.Proofs.YtfjnhnfghhaehaaGreatDoor
