/- The number -1: its bytes, pushed. -/
import Derived.Test.YtafpgikhcjildaaGreatDoorMach
namespace Go.Proofs.YtafpgikhcjildaaGreatDoor
open Go.RowKit Go.Proofs

set_option maxRecDepth 100000

theorem own_blk {w : World} {base n c : Nat} {e : TypeId} {A : Option Addr} {xs : List Value} (h : w.ownsRow base e 1 (.slice A n c) n xs) (hn : 0 < n) : ∃ g cur, A = some ⟨g, 0, none⟩ ∧ Blk w g e cur ∧ base ≤ g ∧ n ≤ c ∧ n ≤ cur.size ∧ ∀ (j : Nat) (u : Value), xs[j]? = some u → cur[j]? = some u := by
  have hl := h.1
  rcases h.2 with ⟨he, h0⟩ | ⟨g, cap, cur, he, hb, hh, hnc, hm, hs, ht⟩
  · injection he with e1 e2 e3
    omega
  · injection he with e1 e2 e3
    subst e1; subst e3
    refine ⟨g, cur, rfl, hh, hb, hnc, by omega, fun j u hu => ?_⟩
    rw [← ht, List.getElem?_take] at hu
    split at hu
    · simpa using hu
    · cases hu

/-- Bytes of -1. -/
theorem bytes_neg (w : World) :
    Calls Tryz.prog 197 #[.int .i64 (-1)] w fun e w' => ∃ A c, e = .returned (.slice A 1 c) ∧ Rd 0 w' (.slice A 1 c) [129] ∧ Below w.heap.size w w' := by
  obtain ⟨i0, hi, hz0, hz1, hz2⟩ := info_parts info_u8
  have hmk := make09
  have hone : Hid (∀ u ∈ [Value.int .u8 1], u.oneCell' = true) := by intro u hu; simp at hu; subst hu; rfl
  have hown := World.ownsRow_made (base := w.heap.size) (e := 5) (size := 1) w #[.int .u8 0, .int .u8 0, .int .u8 0, .int .u8 0, .int .u8 0, .int .u8 0, .int .u8 0, .int .u8 0, .int .u8 0] 9 (Nat.le_refl _) (by simp [maxLen]) rfl
  have hO := Lib.hid (hown.alloc (.cells #[.int .u8 1] 5))
  clear hown
  have hb : Hid (w.heap.size ≤ ((w.alloc (.cells #[.int .u8 0, .int .u8 0, .int .u8 0, .int .u8 0, .int .u8 0, .int .u8 0, .int .u8 0, .int .u8 0, .int .u8 0] 5)).alloc (.cells #[.int .u8 1] 5)).heap.size) := by show _ ≤ _; simp; omega
  have hand : bits BinOp.and IntKind.i64 1 255 = 1 := by decide
  go_enter Tryz.func197, Tryz.ntmps197
  go_wp2
  refine wp_loop_rounds 2 ?_
  rw [rounds_succ]
  go_wp2_with (at_builtin; refine Stop.mk ?_)
  refine Stop.go ?_
  refine wpList_append_cells _ rfl (.tmp 16) (.tmp 20) 24 rfl w.heap.size 5 i0 _ 1 Tryz.underlying24 hi hz0 hz1 hz2 rfl _ 0 [] rfl hO.out (some ⟨w.heap.size + 1, 0, none⟩) 1 1 [.int .u8 1] rfl ?_ hone.out (by omega) (by omega) hb.out ?_
  · have := Cells.one (w.alloc (.cells #[.int .u8 0, .int .u8 0, .int .u8 0, .int .u8 0, .int .u8 0, .int .u8 0, .int .u8 0, .int .u8 0, .int .u8 0] 5)) (.int .u8 1) 5
    simpa using this
  intro v' w1 hown' hgrow hat
  simp only [Nat.zero_add, List.nil_append] at hown'
  obtain ⟨A', c', rfl⟩ := own_form hown'
  have hbel : Below w.heap.size w w1 := (((Below.refl _ _).alloc (Nat.le_refl _) _).alloc (by simp) _).grown hgrow (by simp; omega) (fun k hk => by injection hk with hk; exact Nat.le_of_eq hk)
  obtain ⟨g, cur, rfl, hblk, hbg, hnc, hcs, hcur⟩ := own_blk hown' (by omega)
  have hx : w1.cell? ⟨g, 0, none⟩ = some (.int .u8 1) := (hblk.cell 0).trans (hcur 0 _ rfl)
  have hf : w1.frozen? ⟨g, 0, none⟩ = false := hblk.frozen 0
  have HB := Lib.hid hbel
  have HK := Lib.hid hblk
  have HC := Lib.hid hcs
  clear hbel hown' hgrow hat hblk hcur
  go_wp2
  rw [rounds_succ]
  have hand8 : bits BinOp.and IntKind.u8 1 128 = 0 := by decide
  have hor : bits BinOp.or IntKind.u8 1 128 = 129 := by decide
  go_wp2
  go_ret
  refine ⟨_, _, rfl, ⟨some ⟨g, 0, none⟩, c', rfl, hnc, fun _ => ⟨g, 0, _, _, _, rfl, HK.out.set_ 0 _, .inr (by decide), fun j u hu => ?_⟩⟩, HB.out.setCell (p := ⟨g, 0, none⟩) hbg _⟩
  have hcs := HC.out
  match j, hu with
  | 0, hu =>
    simp at hu
    subst hu
    rw [Array.getElem?_setIfInBounds, if_pos rfl, if_pos (by omega)]
    rfl

theorem pushNeg_vm (w : World) (g : Nat) (B : Bd) (cs : Array Value) (xss : List (List UInt8)) (h : Vm w g B cs xss) (hn : xss.length ≤ 100000) :
    Calls Tryz.prog 158 #[.pointer (some ⟨g, 23, none⟩), .int .i64 (-1)] w fun e w' => e = .returned (.tuple #[]) ∧
      ∃ cs', Vm w' g B cs' (xss ++ [[129]]) ∧ K23 cs cs' ∧ Fs g B w w' := by
  have H := Lib.hid (bytes_neg w)
  have HV := Lib.hid h
  clear h
  go_enter Tryz.func158, Tryz.ntmps158
  go_wp2_with fail
  refine H.out.mono ?_
  rintro e w1 ⟨A, c, rfl, hrd, hb⟩
  have H2 := Lib.hid (push_vm w1 g B cs xss _ _ (HV.out.below hb) hrd hn)
  have hfb : Fs g B w w1 := Fs.of_below hb
  have HF := Lib.hid hfb
  clear hb hrd hfb
  go_wp2_with fail
  refine H2.out.mono ?_
  rintro e w' ⟨rfl, cs', k1, k2, k3⟩
  have k1 := Lib.hid k1
  have k2 := Lib.hid k2
  have k3 := Lib.hid k3
  go_wp2
  go_end0
  exact ⟨rfl, cs', k1.out, k2.out, HF.out.trans k3.out⟩

theorem neg_vm (w : World) (g : Nat) (B : Bd) (cs : Array Value) (xss : List (List UInt8)) (op data : Value) (h : Vm w g B cs xss) (hn : xss.length ≤ 100000) :
    Calls Tryz.prog 80 #[op, data, .pointer (some ⟨g, 0, none⟩)] w (Leaves w g B cs (xss ++ [[129]])) := by
  have H := Lib.hid (pushNeg_vm w g B cs xss h hn)
  have hbl := h.blk.lt
  clear h
  go_enter Tryz.func80, Tryz.ntmps80
  go_wp2_with fail
  refine H.out.mono ?_
  rintro e w' ⟨rfl, h⟩
  have h := Lib.hid h
  go_wp2
  go_ret
  exact ⟨rfl, h.out⟩
end Go.Proofs.YtafpgikhcjildaaGreatDoor
