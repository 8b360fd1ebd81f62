/- The stack handed out, whatever lies on it. -/
import Derived.Test.YtafpgikhcjildaaGreatDoorLists
import Derived.Laws.MakeOwn
namespace Go.Proofs.YtafpgikhcjildaaGreatDoor
open Go.RowKit Go.Proofs

set_option maxRecDepth 100000

theorem peekI_any (w : World) (b o t base n i : Nat) (cs : Array Value) (A : Option Addr) (c : Nat) (items : List Value) (Ax : Option Addr) (nx cx : Nat)
    (hB : Blk w b t cs) (hv : cs[o]? = some (.slice A n c)) (hown : w.ownsRow base 24 1 (.slice A n c) n items) (hi : i < n) (hn : n ≤ 100000) (hx : items[n - 1 - i]? = some (.slice Ax nx cx)) :
    Calls Tryz.prog 148 #[.pointer (some ⟨b, o, none⟩), .int .i32 i] w fun e w' => e = .returned (.tuple #[.slice Ax nx cx, .nilIface]) ∧ w = w' := by
  obtain ⟨g, cap, hform, hbg, hlt⟩ := hown.form (by omega)
  injection hform with e1 e2 e3
  subst e1
  obtain ⟨j, hj⟩ : ∃ j, n - 1 - i = j := ⟨_, rfl⟩
  rw [hj] at hx
  have hxc : w.cell? ⟨g, j, none⟩ = some (.slice Ax nx cx) := by
    have := hown.cells (g := g) rfl j (.slice Ax nx cx) hx
    rwa [addr_add, Nat.zero_add] at this
  have hc := (hB.cell o).trans hv
  clear hB hown hv
  obtain ⟨ni, hni⟩ : ∃ ni : Int, (n : Int) = ni := ⟨_, rfl⟩
  obtain ⟨ii, hii⟩ : ∃ ii : Int, (i : Int) = ii := ⟨_, rfl⟩
  have hji : ni - ii - 1 = (j : Int) := by omega
  have h1 : (0 : Int) ≤ (j : Int) := by omega
  have h2 : (j : Int) < ni := by omega
  have h3 : ¬ (ii < 0) := by omega
  have h4 : ¬ (ni ≤ ii) := by omega
  have h5 : ni ≤ 100000 := by omega
  have h6 : 0 ≤ ii := by omega
  have h7 : j < n := by omega
  have hw1 : IntKind.i32.wrap ni = ni := by simp only [IntKind.wrap_i32]; omega
  have hw2 : IntKind.i32.wrap (ni - ii) = ni - ii := by simp only [IntKind.wrap_i32]; omega
  have hw3 : IntKind.i32.wrap (j : Int) = j := by simp only [IntKind.wrap_i32]; omega
  rw [hii]
  go_enter Tryz.func148, Tryz.ntmps148
  go_wp2
  go_ret2
  exact ⟨rfl, rfl⟩

/-- The loop's relation: from the end on the row holds the stack's elements. -/
def GsRel (w : World) (T n : Nat) (items : List Value) (k : Nat) (s10 _s4 : Value) (wx : World) : Prop :=
  ∃ (i : Nat) (cs : Array Value), k = n - i + 1 ∧ i ≤ n ∧ s10 = .int .i64 i ∧ Blk wx T 24 cs ∧ cs.size = n ∧ (∀ j, n - i ≤ j → j < n → cs[j]? = items[j]?) ∧ Below w.heap.size w wx

set_option maxHeartbeats 1000000 in
theorem getStack_any (w : World) (g B o : Nat) (cs : Array Value) (xss : List (List UInt8)) (items : List Value) (A : Option Addr) (c : Nat) (hblk : Blk w g 84 cs) (h23 : cs[o]? = some (.slice A xss.length c)) (hown : w.ownsRow B 24 1 (.slice A xss.length c) xss.length items) (hrdl : RdL 0 w items xss) (hn : xss.length ≤ 100000) :
    Calls Tryz.prog 65 #[.pointer (some ⟨g, o, none⟩)] w fun e w' => ∃ T, e = .returned (.slice (some ⟨T, 0, none⟩) xss.length xss.length) ∧ Cells w' (some ⟨T, 0, none⟩) xss.length items ∧ RdL 0 w' items xss ∧ Below w.heap.size w w' := by
  obtain ⟨n, hln⟩ : ∃ n, xss.length = n := ⟨_, rfl⟩
  rw [hln] at h23 hown hn ⊢
  obtain ⟨i0, hi, hz0, hz1, hz2⟩ := info_parts info_rows
  have hil : items.length = n := by have := hown.1; simpa using this
  have hm := run_make (P := Tryz.prog) w 22 24 i0 (.slice none 0 0) Tryz.underlying22 hi hz0 .i32 .i32 (n : Int) (n : Int) (by omega) (Int.le_refl _) (by rw [hz2]; omega) (by omega)
  rw [hz1, Int.toNat_natCast, Nat.mul_one] at hm
  have hms : (madeCells (Value.slice none 0 0).cells n).size = n := size_madeCells _ _
  generalize madeCells (Value.slice none 0 0).cells n = mc at hm hms
  have HBLK := Lib.hid hblk
  have H23 := Lib.hid h23
  have HOWN := Lib.hid hown
  have HRDL := Lib.hid hrdl
  have HD := Lib.hid (depth_any w g o n c A (by omega) ((hblk.cell o).trans h23))
  clear hblk h23 hown hrdl hi hz0 hz1 hz2
  go_enter Tryz.func65, Tryz.ntmps65
  go_wp2_with fail
  refine HD.out.mono ?_
  rintro e w1 ⟨rfl, rfl⟩
  go_wp2
  have hT := Blk.new w 24 mc
  have hB1 : Below w.heap.size w (w.alloc (.cells mc 24)) := (Below.refl _ _).alloc (Nat.le_refl _) _
  have HT := Lib.hid hT
  have HB1 := Lib.hid hB1
  clear hT hB1 hm
  have hTw : Hid (w.heap.size ≤ w.heap.size) := Nat.le_refl _
  generalize hTT : w.heap.size = T at HT ⊢
  go_loopg [10, 4] (n + 1) (fun k s10 s4 wx => GsRel w T n items k s10 s4 wx)
  case atStart => exact ⟨0, mc, rfl, Nat.zero_le _, rfl, HT.out, hms, fun j h1 h2 => by omega, HB1.out⟩
  case round =>
    obtain ⟨i, csi, rfl, hin, rfl, hblk, hsz, hval, hbel⟩ := hrel
    have hlt := hblk.lt
    have HK := Lib.hid hblk
    have HV := Lib.hid hval
    have HB := Lib.hid hbel
    clear hblk hval hbel
    by_cases h0 : i = n
    · subst h0
      have hd : decide ((i : Int) < i) = false := by simp
      go_wp2
      go_ret
      refine ⟨T, rfl, ⟨hil, fun _ => ⟨T, 0, rfl, fun j u hu => ?_⟩⟩, HRDL.out.below HB.out, HB.out⟩
      rw [HK.out.cell, Nat.zero_add, HV.out j (by omega) (by have := (List.getElem?_eq_some_iff.1 hu).1; omega)]
      exact hu
    · obtain ⟨j, hj⟩ : ∃ j, n - 1 - i = j := ⟨_, rfl⟩
      obtain ⟨v, hv⟩ : ∃ v, items[j]? = some v := ⟨items[j]'(by omega), List.getElem?_eq_getElem _⟩
      obtain ⟨xs, hxs⟩ : ∃ xs, xss[j]? = some xs := ⟨xss[j]'(by omega), List.getElem?_eq_getElem _⟩
      obtain ⟨Av, cv, rfl, hcv⟩ := (HRDL.out.2 j v xs hv hxs).slice
      have HP := Lib.hid (peekI_any wr g o _ B n i cs A c items Av xs.length cv (HBLK.out.below HB.out HBLK.out.lt) H23.out (own_below HOWN.out HB.out) (by omega) hn (by rw [hj]; exact hv))
      have HVJ := Lib.hid hv
      clear hv
      have h1 : (i : Int) < (n : Int) := by omega
      have h2 : (0 : Int) ≤ (i : Int) := by omega
      have hn1 : (n : Int) ≤ 100000 := by omega
      have hw1 : IntKind.i32.wrap (i : Int) = i := by simp only [IntKind.wrap_i32]; omega
      have hji : (n : Int) - (i : Int) - 1 = (j : Int) := by omega
      have hj0 : (0 : Int) ≤ (j : Int) := by omega
      have hj1 : (j : Int) < (n : Int) := by omega
      have hj2 : j < n := by omega
      have hfz := HK.out.frozen j
      have hcl : ∃ u, wr.cell? ⟨T, j, none⟩ = some u := ⟨csi[j]'(by omega), (HK.out.cell j).trans (Array.getElem?_eq_getElem _)⟩
      obtain ⟨u, hcl⟩ := hcl
      go_wp2_with fail
      refine HP.out.mono ?_
      rintro e w1 ⟨rfl, rfl⟩
      go_wp2_with fail
      have hw2 : (i : Int) + 1 = ((i + 1 : Nat) : Int) := by omega
      go_roundg (n - (i + 1) + 1)
      case measure => omega
      case rel =>
        have hT0 : w.heap.size ≤ T := Nat.le_of_eq hTT
        refine ⟨i + 1, csi.setIfInBounds j (.slice Av xs.length cv), rfl, by omega, ?_, HK.out.set_ j _, by simp [hsz], fun l h3 h4 => ?_, HB.out.setCell (p := ⟨T, j, none⟩) hT0 _⟩
        · rw [← hw2]
        · rw [Array.getElem?_setIfInBounds]
          by_cases hl : j = l
          · subst hl
            rw [if_pos rfl, if_pos (by omega), HVJ.out]
          · rw [if_neg hl]
            exact HV.out l (by omega) h4
end Go.Proofs.YtafpgikhcjildaaGreatDoor
