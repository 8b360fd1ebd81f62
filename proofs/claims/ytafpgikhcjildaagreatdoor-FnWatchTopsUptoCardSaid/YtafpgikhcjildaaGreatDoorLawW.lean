/- The walk of FnWatchTops. -/
import Derived.Test.YtafpgikhcjildaaGreatDoorWatchRun
import Derived.Test.YtafpgikhcjildaaGreatDoorTx
import Derived.Test.YtafpgikhcjildaaGreatDoorAlone
import Derived.Test.YtafpgikhcjildaaGreatDoorSaidW
namespace Go.Proofs.YtafpgikhcjildaaGreatDoor
open Go.RowKit Go.Proofs

set_option maxRecDepth 100000

set_option maxHeartbeats 4000000 in
theorem law_walk_w : LawSaid := by
  intro w A n c vs xss hc hr hs
  have hl : xss.length = n := by rw [← hr.1, hc.1]
  have hnb : (n : Int) ≤ 1048576 := by omega
  have HC := Lib.hid hc
  have HR := Lib.hid hr
  have HF := Lib.hid (fits5_any w _ A n c vs xss hc hr (by omega))
  have HFR := Lib.hid (front_any w A n c vs xss hc hr hs)
  clear hc hr hs
  go_enter Tryz.func3, Tryz.ntmps3
  go_wp2_with fail
  refine HF.out.mono ?_
  rintro e w1 ⟨rfl, rfl⟩
  go_wp2_with fail
  refine HFR.out.mono ?_
  rintro e w1 ⟨A1, c1, es, ok, rfl, hb1, hok⟩
  have HB1 := Lib.hid hb1
  clear HF HFR hb1
  cases ok
  · clear hok
    go_wp2
    go_ret
    exact ⟨rfl, HB1.out⟩
  obtain ⟨hx, hn300, hes6, hes, hrd⟩ := hok rfl
  have HX := Lib.hid hx
  have HES := Lib.hid hes
  have HRD := Lib.hid hrd
  clear hok hx hes hrd
  by_cases hn0 : n = 0
  · subst hn0
    go_wp2
    go_ret
    exact ⟨rfl, HB1.out⟩
  have hn1 : ¬ ((n : Int) = 0) := by omega
  go_wp2_with fail
  refine (alone_rule w1 0 0 (by kernel_rfl) A1 es.length c1 es HRD.out (by omega)).mono ?_
  rintro e w2 ⟨A2, k2, ri, ro, q1, q2, rfl, ho2, hri, hro, hb2⟩
  have hcode : code (xss.map pushT ++ [⟨81, []⟩]) = code (xss.map pushT) ++ [81] := code_snoc _ _
  have hrd2 : Rd 0 w2 (.slice A2 (es.length + 1) k2) (code (xss.map pushT ++ [⟨81, []⟩])) := by
    rw [hcode, ← HES.out]
    exact rd_own ho2 (by decide)
  have HW := Lib.hid (watch_any inCells.toArray tx_said w2 A2 (es.length + 1) k2 ri ro q1 q2 100 xss HX.out (by omega) hrd2 (by omega) hri hro)
  have HB2 := Lib.hid (Below.trans' HB1.out HB1.out.size (Below.lower hb2 HB1.out.size))
  clear ho2 hri hro hb2 hrd2 hcode
  go_wp2_with fail
  refine HW.out.mono ?_
  rintro e w3 ⟨A3, A4, c3, c4, vs4, rfl, hc4, hr4, hb4⟩
  have hN : ([[]] ++ xss ++ [[1]] : List (List UInt8)).length = n + 2 := by simp [hl]
  rw [hN] at hc4 ⊢
  have HB3 := Lib.hid (Below.trans' HB2.out HB2.out.size (Below.lower hb4 HB2.out.size))
  have HC4 := Lib.hid hc4
  have HR4 := Lib.hid hr4
  clear hc4 hr4 hb4 HW HB2 HB1 HRD HES hN
  go_wp2_with fail
  simp only [show ((n : Int) + 2 - (n : Int) - 1) = 1 by omega]
  go_loopg [9] (n + 1) (fun k s wx => Below w.heap.size w wx ∧ Below w3.heap.size w3 wx ∧ ∃ i : Nat, k = n - i + 1 ∧ i ≤ n ∧ s = .int .i64 i)
  case atStart => exact ⟨HB3.out, Below.refl _ _, 0, by simp, Nat.zero_le _, rfl⟩
  case round =>
    obtain ⟨hbl, hbl3, i, rfl, hin, rfl⟩ := hrel
    have HBL := Lib.hid hbl
    have HBL3 := Lib.hid hbl3
    clear hbl hbl3
    by_cases h0 : i = n
    · subst h0
      have hd : decide ((i : Int) < i) = false := by simp
      go_wp2
      go_ret
      exact ⟨rfl, HBL.out⟩
    · have h1 : (i : Int) < (n : Int) := by omega
      have h2 : (0 : Int) ≤ (i : Int) := by omega
      have h4 : (0 : Int) ≤ 1 + (i : Int) := by omega
      have h5 : 1 + (i : Int) < (n : Int) + 2 := by omega
      have h6 : (1 + (i : Int)).toNat = i + 1 := by omega
      have h7 : IntKind.i64.wrap (1 + (i : Int)) = 1 + (i : Int) := by
        simp only [IntKind.wrap_i64, wrap64]
        omega
      obtain ⟨b, o, rfl, hca⟩ := HC.out.2 (by omega)
      obtain ⟨b', o', rfl, hcb⟩ := HC4.out.2 (by omega)
      obtain ⟨v, hv⟩ : ∃ v, vs[i]? = some v := ⟨vs[i]'(by rw [HC.out.1]; omega), List.getElem?_eq_getElem _⟩
      obtain ⟨v', hv'⟩ : ∃ v', vs4[i + 1]? = some v' := ⟨vs4[i + 1]'(by rw [HC4.out.1]; omega), List.getElem?_eq_getElem _⟩
      obtain ⟨xs, hxs⟩ : ∃ xs, xss[i]? = some xs := ⟨xss[i]'(by omega), List.getElem?_eq_getElem _⟩
      have hxs' : ([[]] ++ xss ++ [[1]] : List (List UInt8))[i + 1]? = some xs := by
        rw [List.getElem?_append_left (by simp; omega)]
        simpa using hxs
      have hl1 := cell_keep HBL.out (hca i v hv)
      have hl2 := cell_keep HBL3.out (hcb (i + 1) v' hv')
      have HS := Lib.hid (same_any wr.drew 0 _ v' v xs (show Rd 0 wr v' xs from (HR4.out.2 (i + 1) v' xs hv' hxs').below HBL3.out) (show Rd _ wr v xs from (HR.out.2 i v xs hv hxs).below HBL.out) (by have := HX.out xs (List.mem_of_getElem? hxs); omega))
      clear hca hcb hv hv' hxs hxs'
      go_wp2_with fail
      go_region_held3 (fun w' => w'.cell? ⟨b, o + i, none⟩ = some v ∧ w'.cell? ⟨b', o' + (i + 1), none⟩ = some v')
        ((first | exact ⟨hl1, hl2⟩ | exact ⟨cell_keep (w := wr.drew) hb1 hl1, cell_keep (w := wr.drew) hb1 hl2⟩))
        (first
          | (go_at_call 8
             refine HS.out.mono ?_
             rintro e w1 ⟨rfl, hb1⟩))
      have HB1 := Lib.hid (Below.trans (show Below w.heap.size w wr.drew from ⟨HBL.out.os, HBL.out.tape, HBL.out.output, HBL.out.size, HBL.out.block⟩) (Below.mono hb1 HBL.out.size))
      have HB13 := Lib.hid (Below.trans (show Below w3.heap.size w3 wr.drew from ⟨HBL3.out.os, HBL3.out.tape, HBL3.out.output, HBL3.out.size, HBL3.out.block⟩) (Below.mono hb1 HBL3.out.size))
      go_wp2_with fail
      have hw1 : (i : Int) + 1 = ((i + 1 : Nat) : Int) := by omega
      go_roundg (n - (i + 1) + 1)
      case measure => omega
      case rel => exact ⟨HB1.out, HB13.out, i + 1, rfl, by omega, by rw [← hw1]⟩
end Go.Proofs.YtafpgikhcjildaaGreatDoor
