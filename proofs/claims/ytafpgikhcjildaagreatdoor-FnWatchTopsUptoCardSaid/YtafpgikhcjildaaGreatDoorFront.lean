/- Pushes of some elements, joined. -/
import Derived.Test.YtafpgikhcjildaaGreatDoorPushSpec
import Derived.Test.YtafpgikhcjildaaGreatDoorMeas
import Derived.Test.YtafpgikhcjildaaGreatDoorPost
namespace Go.Proofs.YtafpgikhcjildaaGreatDoor
open Go.RowKit Go.Proofs

set_option maxRecDepth 100000

theorem code_snoc (ts : List Tok) (t : Tok) : code (ts ++ [t]) = code ts ++ t.enc := by
  rw [code_append]
  simp [code]

theorem rd_own {w : World} {base n c : Nat} {e : TypeId} {A : Option Addr} {bs : List UInt8} (h : w.ownsRow base e 1 (.slice A n c) n (bv bs)) (he : e ∉ Sx) : Rd 0 w (.slice A n c) bs := by
  have hl : n = bs.length := by have := h.1; simp [bv_length] at this; exact this.symm
  subst hl
  exact Rd.of_own h he

/-- The loop's relation. -/
def ScRel (w : World) (n : Nat) (xss : List (List UInt8)) (k : Nat) (s3 s4 : Value) (wx : World) : Prop :=
  ∃ (i : Nat) (A : Option Addr) (c : Nat) (es : List UInt8), k = n - i + 1 ∧ i ≤ n ∧ s3 = .slice A es.length c ∧ s4 = .int .i64 i ∧ wx.ownsRow w.heap.size 5 1 (.slice A es.length c) es.length (bv es) ∧ es.length ≤ szs (xss.take i) + 5 * i ∧
    ((∀ d ∈ xss.take i, d.length ≤ 520) → es = code ((xss.take i).map pushT)) ∧ Below w.heap.size w wx

/-- What front comes to. -/
def FrontPost (w : World) (xss : List (List UInt8)) (e : Ending) (w' : World) : Prop :=
  ∃ (A : Option Addr) (c : Nat) (es : List UInt8) (ok : Bool), e = .returned (.tuple #[.slice A es.length c, .bool ok]) ∧ Below w.heap.size w w' ∧
    (ok = true → (∀ d ∈ xss, d.length ≤ 520) ∧ xss.length ≤ 300 ∧ es.length ≤ 6000 ∧ es = code (xss.map pushT) ∧ Rd 0 w' (.slice A es.length c) es)

set_option maxHeartbeats 1000000 in
theorem front_any (w : World) (A1 : Option Addr) (n2 c1 : Nat) (vs2 : List Value) (xss2 : List (List UInt8)) (hc2 : Cells w A1 n2 vs2) (hr2 : RdL w.heap.size w vs2 xss2) (hs : szs xss2 + xss2.length ≤ 1048576) :
    Calls Tryz.prog 5 #[.slice A1 n2 c1] w (FrontPost w xss2) := by
  have hl2 : xss2.length = n2 := by rw [← hr2.1, hc2.1]
  obtain ⟨i0, hi, hz0, hz1, hz2⟩ := info_parts info_u8
  have hnb : (n2 : Int) ≤ 1048576 := by omega
  have HC2 := Lib.hid hc2
  have HR2 := Lib.hid hr2
  have HS := Lib.hid hs
  clear hc2 hr2 hs
  go_enter Tryz.func5, Tryz.ntmps5
  go_wp2_with fail
  go_loopg [4, 5] (n2 + 1) (fun k s3 s4 wx => ScRel w n2 xss2 k s3 s4 wx)
  case atStart => exact ⟨0, none, 0, [], by simp, Nat.zero_le _, rfl, rfl, ⟨rfl, .inl ⟨rfl, rfl⟩⟩, by simp, fun _ => rfl, Below.refl _ _⟩
  case round =>
    obtain ⟨i, A, c, es, rfl, hin, rfl, rfl, hown, hel, hes, hbel⟩ := hrel
    have HO := Lib.hid hown
    have HES := Lib.hid hes
    have HB := Lib.hid hbel
    clear hown hes hbel
    have hst := szs_take xss2 i
    have hes0 : es.length ≤ 10000000 := by have := HS.out; omega
    by_cases h0 : i = n2
    · subst h0
      have ht : xss2.take i = xss2 := List.take_of_length_le (by omega)
      have hd : decide ((i : Int) < i) = false := by simp
      have HG2 := Lib.hid (light_any wr _ A1 i c1 vs2 xss2 (HC2.out.below HB.out) (HR2.out.below HB.out) (by have := HS.out; omega))
      have HRD := Lib.hid (rd_own (n := es.length) (c := c) (A := A) (bs := es) HO.out (by decide))
      have HES2 : Hid ((∀ d ∈ xss2, d.length ≤ 520) → es = code (xss2.map pushT)) := by rw [← ht]; exact HES.out
      clear hel hst ht HES
      go_wp2_with fail
      refine HG2.out.mono ?_
      rintro e w1 ⟨b1, rfl, hb1, rfl⟩
      cases b1
      · clear hb1
        go_wp2
        go_ret2
        exact ⟨A, c, es, false, rfl, HB.out, fun h => by cases h⟩
      obtain ⟨hx1, hn1⟩ := hb1 rfl
      have HX1 := Lib.hid hx1
      clear hb1 hx1
      by_cases h9 : (es.length : Int) ≤ 6000
      · go_wp2
        go_ret2
        exact ⟨A, c, es, _, rfl, HB.out, fun _ => ⟨HX1.out, hn1, by omega, HES2.out HX1.out, HRD.out⟩⟩
      · go_wp2
        go_ret2
        exact ⟨A, c, es, _, rfl, HB.out, fun h => absurd (of_decide_eq_true h) (by omega)⟩
    · have h1 : (i : Int) < (n2 : Int) := by omega
      have h2 : (0 : Int) ≤ (i : Int) := by omega
      obtain ⟨b, o, rfl, hcells⟩ := HC2.out.2 (by omega)
      obtain ⟨v, hv⟩ : ∃ v, vs2[i]? = some v := ⟨vs2[i]'(by rw [HC2.out.1]; omega), List.getElem?_eq_getElem _⟩
      obtain ⟨xs, hxs⟩ : ∃ xs, xss2[i]? = some xs := ⟨xss2[i]'(by omega), List.getElem?_eq_getElem _⟩
      have hcl := cell_keep HB.out (hcells i v hv)
      have hvr : Rd w.heap.size wr v xs := (HR2.out.2 i v xs hv hxs).below HB.out
      obtain ⟨Av, cv, rfl, -⟩ := hvr.slice
      have hsucc := szs_take_succ hxs
      have hxl : xs.length ≤ 1048576 := by
        have := szs_mem (List.mem_of_getElem? hxs)
        have := HS.out
        omega
      have HP := Lib.hid (spush_any wr w.heap.size Av cv xs (by omega) hvr)
      have HXS := Lib.hid hxs
      clear hcells hv hvr hxs
      go_wp2_with fail
      refine HP.out.mono ?_
      rintro e w1 ⟨A', c', es', rfl, ho1, hle1, heq1, hb1⟩
      have HB1 := Lib.hid (Below.trans' HB.out HB.out.size (Below.lower hb1 HB.out.size))
      have HO1 := Lib.hid (own_below HO.out hb1)
      have HC' := Lib.hid (Cells.of_own ho1)
      have HEQ := Lib.hid heq1
      clear ho1 heq1 hb1 HP HO
      go_wp2_with (at_builtin; refine Stop.mk ?_)
      refine Stop.go ?_
      refine wpList_append_cells _ rfl (.tmp 12) (.tmp 17) 24 rfl w.heap.size 5 i0 _ 1 Tryz.underlying24 hi hz0 hz1 hz2 rfl (.slice A es.length c) es.length (bv es) rfl HO1.out A' es'.length c' (bv es') rfl HC'.out (by intro u hu; simp [bv] at hu; obtain ⟨x, -, rfl⟩ := hu; rfl) (by omega) (by omega) HB1.out.size ?_
      intro v' w2 hown' hgrow hat
      rw [← bv_append, ← List.length_append] at hown'
      obtain ⟨A3, c3, rfl⟩ := own_form hown'
      have HB2 := Lib.hid (HB1.out.grown hgrow HB1.out.size (fun k hk => (HO1.out.lt k hk).1))
      have HO2 := Lib.hid hown'
      clear hown' hgrow hat HO1 HC' HB1 HB
      go_wp2_with fail
      have hw1 : (i : Int) + 1 = ((i + 1 : Nat) : Int) := by omega
      go_roundg (n2 - (i + 1) + 1)
      case measure => omega
      case rel =>
        have ht : xss2.take (i + 1) = xss2.take i ++ [xs] := by rw [List.take_add_one, HXS.out]; rfl
        refine ⟨i + 1, A3, c3, es ++ es', rfl, by omega, by rw [List.length_append], by rw [← hw1], HO2.out, by rw [List.length_append]; omega, fun hall => ?_, HB2.out⟩
        rw [ht] at hall ⊢
        have h3 := hall xs (by simp)
        rw [List.map_append, List.map_cons, List.map_nil, code_snoc, ← HES.out (fun d hd => hall d (List.mem_append_left _ hd)), HEQ.out (by omega)]
end Go.Proofs.YtafpgikhcjildaaGreatDoor
