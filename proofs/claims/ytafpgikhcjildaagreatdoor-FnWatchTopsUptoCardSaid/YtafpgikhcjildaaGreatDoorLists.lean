/- Lists of lists of bytes: copied. -/
import Derived.Test.YtafpgikhcjildaaGreatDoorRead
import Derived.Deep.LoopGhost
import Derived.LoopTactic
namespace Go.Proofs.YtafpgikhcjildaaGreatDoor
open Go.RowKit Go.Proofs

set_option maxRecDepth 100000

theorem rdl_grown {w w' : World} {base n : Nat} {v : Value} {vs xs : List Value} {xss : List (List UInt8)} (h : RdL 0 w vs xss) (ho : w.ownsRow base 24 1 v n xs) (hg : w.grownBy w' v.ownBlock) : RdL 0 w' vs xss := by
  refine h.fm (M := fun k => v.ownBlock = some k) (Fm.grown (Fm.refl _ _) hg (fun k _ h => h)) fun k hk hm => ⟨Nat.zero_le _, ?_⟩
  rcases ho.2 with ⟨rfl, _⟩ | ⟨g', cap, cur, rfl, hbg, hgg, _⟩
  · simp [Value.ownBlock] at hm
  · have : g' = k := by simpa [Value.ownBlock] using hm
    subst this
    exact ⟨cur, _, (0, 0), hgg, by decide⟩

theorem cell_keep {w w' : World} {a : Addr} {u : Value} (h : Below w.heap.size w w') (hc : w.cell? a = some u) : w'.cell? a = some u :=
  (World.cell?_of_block (w := w) (h.block a.block (World.block_lt_of_cell? w _ hc))).trans hc

/-- The loop's relation. -/
def CpRel (w : World) (n : Nat) (xss : List (List UInt8)) (k : Nat) (s3 s4 : Value) (wx : World) : Prop :=
  ∃ (i : Nat) (A : Option Addr) (c : Nat) (vs' : List Value), k = n - i + 1 ∧ i ≤ n ∧ s3 = .slice A i c ∧ s4 = .int .i64 i ∧ wx.ownsRow w.heap.size 24 1 (.slice A i c) i vs' ∧ RdL 0 wx vs' (xss.take i) ∧ Below w.heap.size w wx

set_option maxHeartbeats 1000000 in
theorem copies_any (w : World) (B : Nat) (A : Option Addr) (n c : Nat) (vs : List Value) (xss : List (List UInt8)) (hc : Cells w A n vs) (hr : RdL B w vs xss) (hn : n ≤ 1000000) (hx : ∀ xs ∈ xss, xs.length ≤ 1000000) :
    Calls Tryz.prog 21 #[.slice A n c] w fun e w' => ∃ A' c' vs', e = .returned (.slice A' n c') ∧ w'.ownsRow w.heap.size 24 1 (.slice A' n c') n vs' ∧ RdL 0 w' vs' xss ∧ Below w.heap.size w w' := by
  obtain ⟨i0, hi, hz0, hz1, hz2⟩ := info_parts info_rows
  have hlen : xss.length = n := by rw [← hr.1, hc.1]
  have HC := Lib.hid hc
  have HR := Lib.hid hr
  have HX := Lib.hid hx
  clear hc hr hx
  go_enter Tryz.func21, Tryz.ntmps21
  go_wp2
  go_loopg [3, 4] (n + 1) (fun k s3 s4 wx => CpRel w n xss k s3 s4 wx)
  case atStart => exact ⟨0, none, 0, [], by simp, Nat.zero_le _, rfl, rfl, ⟨rfl, .inl ⟨rfl, rfl⟩⟩, RdL.nil, Below.refl _ _⟩
  case round =>
    obtain ⟨i, A1, c1, vs', rfl, hin, rfl, rfl, hown, hrd, hbel⟩ := hrel
    have HO := Lib.hid hown
    have HD := Lib.hid hrd
    have HB := Lib.hid hbel
    clear hown hrd hbel
    by_cases h0 : i = n
    · subst h0
      have ht : xss.take i = xss := List.take_of_length_le (by omega)
      have hd : decide ((i : Int) < i) = false := by simp
      go_wp2
      go_ret
      exact ⟨_, _, vs', rfl, HO.out, by rw [← ht]; exact HD.out, HB.out⟩
    · have h1 : (i : Int) < (n : Int) := by omega
      have h2 : (0 : Int) ≤ (i : Int) := by omega
      obtain ⟨b, o, rfl, hcells⟩ := HC.out.2 (by omega)
      obtain ⟨v, hv⟩ : ∃ v, vs[i]? = some v := ⟨vs[i]'(by rw [HC.out.1]; omega), List.getElem?_eq_getElem _⟩
      obtain ⟨xs, hxs⟩ : ∃ xs, xss[i]? = some xs := ⟨xss[i]'(by omega), List.getElem?_eq_getElem _⟩
      have hvr := HR.out.2 i v xs hv hxs
      have hcl := cell_keep HB.out (hcells i v hv)
      have hvr' : Rd B wr v xs := hvr.below HB.out
      obtain ⟨Av, cv, rfl, hcv⟩ := hvr'.slice
      have hxl : xs.length ≤ 1000000 := HX.out xs (List.mem_of_getElem? hxs)
      have HV := Lib.hid hvr'
      have HXS := Lib.hid hxs
      clear hvr hvr' hcells hv
      go_wp2_with fail
      refine (copied_any wr B xs.length cv Av xs HV.out (by omega)).mono ?_
      rintro e w1 ⟨A2, c2, rfl, ho2, hb2⟩
      have hrd2 := Lib.hid (Rd.of_own (B := 0) ho2 (by decide))
      have HB2 := Lib.hid (Below.trans (HB.out) (Below.mono hb2 HB.out.size))
      have HO2 := Lib.hid (own_below HO.out hb2)
      have HD2 := Lib.hid (HD.out.below hb2)
      clear ho2 hb2 HO HD
      go_wp2_with (at_builtin; refine Stop.mk ?_)
      refine Stop.go ?_
      have hba : Below w1.heap.size w1 (w1.alloc (.cells #[.slice A2 xs.length c2] 24)) := (Below.refl _ _).alloc (Nat.le_refl _) _
      have hsz := HB2.out.size
      refine wpList_append_cells _ rfl (.tmp 11) (.tmp 17) 22 rfl w.heap.size 24 i0 _ 24 Tryz.underlying22 hi hz0 hz1 hz2 rfl (.slice A1 i c1) i vs' rfl (own_below HO2.out hba) (some ⟨w1.heap.size, 0, none⟩) 1 1 [.slice A2 xs.length c2] rfl (Cells.one w1 _ _) (by intro u hu; simp at hu; subst hu; rfl) (by omega) (by omega) (by simp; omega) ?_
      intro v' w2 hown' hgrow hat
      obtain ⟨A3, c3, rfl⟩ := own_form hown'
      have HD3 := Lib.hid (rdl_grown (HD2.out.below hba) (own_below HO2.out hba) hgrow)
      have HE3 := Lib.hid (rdl_grown (vs := [.slice A2 xs.length c2]) (xss := [xs]) (RdL.below (RdL.snoc RdL.nil hrd2.out) hba) (own_below HO2.out hba) hgrow)
      have HB3 := Lib.hid ((HB2.out.alloc hsz _).grown hgrow (by simp; omega) (fun k hk => ((own_below HO2.out hba).lt k hk).1))
      have HO3 := Lib.hid hown'
      clear hown' hgrow hat hba
      go_wp2_with fail
      have hw1 : (i : Int) + 1 = ((i + 1 : Nat) : Int) := by omega
      go_roundg (n - (i + 1) + 1)
      case measure => omega
      case rel =>
        refine ⟨i + 1, A3, c3, vs' ++ [.slice A2 xs.length c2], rfl, by omega, rfl, ?_, HO3.out, ?_, HB3.out⟩
        · rw [← hw1]
        · have ht : xss.take (i + 1) = xss.take i ++ [xs] := by rw [List.take_add_one, HXS.out]; rfl
          rw [ht]
          exact RdL.snoc HD3.out (HE3.out.2 0 _ _ rfl rfl)
end Go.Proofs.YtafpgikhcjildaaGreatDoor
