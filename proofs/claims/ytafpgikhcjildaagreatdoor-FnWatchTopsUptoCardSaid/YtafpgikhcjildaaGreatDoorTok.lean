/- The tokenizer's small methods, walked. -/
import Derived.Test.YtafpgikhcjildaaGreatDoorAppend
import Derived.Test.YtafpgikhcjildaaGreatDoorOps
import Derived.Test.YtafpgikhcjildaaGreatDoorScript
import Derived.Test.YtafpgikhcjildaaGreatDoorProg
import Derived.WalkKit
import Derived.WalkSpells
import Derived.WalkLawsBesides
import Derived.BigQuiet
import Derived.Deep.QuietTactic
import Derived.Outline
import Derived.StillTailTactics
import Derived.Lib.Hide
import Derived.Deep.RegionHeld
namespace Go.Proofs.YtafpgikhcjildaaGreatDoor
open Go.RowKit Go.Proofs

set_option maxRecDepth 100000
/-- Done, of a script with no fault: whether the place is at the end. -/
theorem done_any (w : World) (b o n c : Nat) (A : Option Addr) (off : Int) (h0 : 0 ≤ off) (h1 : off ≤ 2147483647) (hn : n ≤ 2147483647)
    (h6 : w.cell? ⟨b, o + 6, none⟩ = some .nilIface) (h2 : w.cell? ⟨b, o + 2, none⟩ = some (.int .i32 off)) (h00 : w.cell? ⟨b, o, none⟩ = some (.slice A n c)) :
    Calls Tryz.prog 39 #[.pointer (some ⟨b, o, none⟩)] w fun e w' => e = .returned (.bool (decide ((n : Int) ≤ off))) ∧ ∃ k, w' = w.drewN k := by
  go_enter Tryz.func39, Tryz.ntmps39
  go_wp2
  go_quiet (fail)
  go_wp2
  go_ret
  exact ⟨rfl, _, rfl⟩

theorem err_any (w : World) (b o : Nat) (v : Value) (h6 : w.cell? ⟨b, o + 6, none⟩ = some v) (hv : v = .nilIface ∨ ∃ t x, v = .iface t x) :
    Calls Tryz.prog 35 #[.pointer (some ⟨b, o, none⟩)] w fun e w' => e = .returned v ∧ w = w' := by
  rcases hv with rfl | ⟨t, x, rfl⟩
  · go_enter Tryz.func35, Tryz.ntmps35
    go_wp2
    go_ret
    exact ⟨rfl, rfl⟩
  · go_enter Tryz.func35, Tryz.ntmps35
    go_wp2
    go_ret
    exact ⟨rfl, rfl⟩

/-- The tokenizer's cells behind a token. -/
def tokSet (cs : Array Value) (o : Nat) (pos : Int) (off : Int) (op data : Value) : Array Value :=
  (((cs.setIfInBounds (o + 3) (.int .i32 pos)).setIfInBounds (o + 2) (.int .i32 off)).setIfInBounds (o + 4) op).setIfInBounds (o + 5) data

theorem get_set {cs : Array Value} {i j : Nat} {v x : Value} (h : cs[i]? = some v) (hne : i ≠ j) : (cs.setIfInBounds j x)[i]? = some v := by
  rw [Array.getElem?_setIfInBounds, if_neg (Ne.symm hne)]
  exact h
theorem get_here {cs : Array Value} {i : Nat} {v x : Value} (h : cs[i]? = some v) : (cs.setIfInBounds i x)[i]? = some x := by
  have := (Array.getElem?_eq_some_iff.1 h).1
  rw [Array.getElem?_setIfInBounds, if_pos rfl, if_pos this]

/-- Next at an opcode that carries nothing. -/
theorem next_one (w : World) (b o t n c : Nat) (cs : Array Value) (off : Nat) (pos : Int) (oldop olddata : Value) (opv : Nat) (nm : ByteArray) (sb so : Nat)
    (hop : OpIs opv nm 1) (h1 : off < n) (hn : n ≤ 2147483647) (hp0 : -1 ≤ pos) (hp : pos ≤ 2147483000)
    (hB : Blk w b t cs)
    (h6 : cs[o + 6]? = some .nilIface) (h2 : cs[o + 2]? = some (.int .i32 off)) (h00 : cs[o]? = some (.slice (some ⟨sb, so, none⟩) n c))
    (h3 : cs[o + 3]? = some (.int .i32 pos)) (h4 : cs[o + 4]? = some oldop) (h5 : cs[o + 5]? = some olddata)
    (hsb : sb ≠ b) (hbyte : w.cell? ⟨sb, so + off, none⟩ = some (.int .u8 opv)) :
    Calls Tryz.prog 34 #[.pointer (some ⟨b, o, none⟩)] w fun e w' => e = .returned (.bool true) ∧
      Blk w' w.heap.size 137 #[.int .u8 opv, .string nm, .int .i64 1] ∧
      Blk w' b t (tokSet cs o (pos + 1) (off + 1) (.pointer (some ⟨w.heap.size, 0, none⟩)) (.slice none 0 0)) ∧ Fm (M1 b) w w' := by
  have hbl := hB.lt
  have c3 := (hB.cell (o + 3)).trans h3
  have hf := hB.frozen
  have hdone := done_any w b o n c (some ⟨sb, so, none⟩) off (by omega) (by omega) hn ((hB.cell (o + 6)).trans h6) ((hB.cell (o + 2)).trans h2) ((hB.cell o).trans h00)
  go_enter Tryz.func34, Tryz.ntmps34
  go_wp2_with fail
  refine hdone.mono ?_
  clear hdone
  rintro e w1 ⟨rfl, k1, rfl⟩
  go_wp2_with fail
  clear c3 hf
  have hB1 := (hB.drewN k1).set_ (o + 3) (.int .i32 (pos + 1))
  have hF1 : Fm (M1 b) w ((w.drewN k1).setCell ⟨b, o + 3, none⟩ (.int .i32 (pos + 1))) := Fm.setCell (M := M1 b) (p := ⟨b, o + 3, none⟩) ((Fm.refl _ w).drewN k1) (fun _ => rfl) _
  have hbyte1 : ((w.drewN k1).setCell ⟨b, o + 3, none⟩ (.int .i32 (pos + 1))).cell? ⟨sb, so + off, none⟩ = some (.int .u8 opv) := by
    rw [World.cell?_setCell_far _ ⟨b, o + 3, none⟩ ⟨sb, so + off, none⟩ _ (Ne.symm hsb)]; exact hbyte
  have hs1 : ((w.drewN k1).setCell ⟨b, o + 3, none⟩ (.int .i32 (pos + 1))).heap.size = w.heap.size := by simp [World.setCell]
  generalize (w.drewN k1).setCell ⟨b, o + 3, none⟩ (.int .i32 (pos + 1)) = W1 at *
  have c0 := (hB1.cell o).trans (get_set h00 (by omega))
  have c2 := (hB1.cell (o + 2)).trans (get_set h2 (by omega))
  have c4 := (hB1.cell (o + 4)).trans (get_set h4 (by omega))
  have c5 := (hB1.cell (o + 5)).trans (get_set h5 (by omega))
  have hf := hB1.frozen
  have hb1 : b < W1.heap.size := hB1.lt
  have hi0 : (0 : Int) ≤ (off : Int) := by omega
  have hi1 : (off : Int) < (n : Int) := by omega
  have HS := Lib.hid hs1
  have HB := Lib.hid hB1
  have HF := Lib.hid hF1
  have H0 := Lib.hid hB
  clear hs1 hB1 hF1 hB h6 h2 h00 h3 h4 h5
  go_still_tail 10, (by kernel_rfl)
  change wpList _ _ _ _ _ W1.drew
  go_wp2_with (go_at_call 55; refine (hop _).mono ?_; rintro e w' ⟨rfl, rfl⟩)
  go_ret
  refine ⟨rfl, ?_, ?_, ?_⟩
  · rw [← HS.out]
    have := Blk.new (((W1.setCell ⟨b, o + 2, none⟩ (.int .i32 (off + 1))).setCell ⟨b, o + 4, none⟩ (.pointer (some ⟨W1.heap.size, 0, none⟩))).setCell ⟨b, o + 5, none⟩ (.slice none 0 0)) 137 #[.int .u8 opv, .string nm, .int .i64 1]
    simp only [World.setCell, Array.size_modify] at this
    exact this.drew
  · rw [← HS.out]
    exact ((((HB.out.set_ _ _).set_ _ _).set_ _ _).alloc _).drew
  · exact ((((HF.out.setCell (p := ⟨b, o + 2, none⟩) (fun _ => rfl) _).setCell (p := ⟨b, o + 4, none⟩) (fun _ => rfl) _).setCell (p := ⟨b, o + 5, none⟩) (fun _ => rfl) _).alloc _).drew
/-- Next at an opcode that carries L bytes. -/
theorem next_data (w : World) (b o t n c : Nat) (cs : Array Value) (off : Nat) (pos : Int) (oldop olddata : Value) (opv : Nat) (nm : ByteArray) (sb so : Nat)
    (L : Nat) (hL0 : 1 ≤ L) (hL : L ≤ 75) (hop : OpIs opv nm (L + 1)) (h1 : off + 1 + L ≤ n) (hc : n ≤ c) (hn : n ≤ 2147483647) (hp0 : -1 ≤ pos) (hp : pos ≤ 2147483000)
    (hB : Blk w b t cs)
    (h6 : cs[o + 6]? = some .nilIface) (h2 : cs[o + 2]? = some (.int .i32 off)) (h00 : cs[o]? = some (.slice (some ⟨sb, so, none⟩) n c))
    (h3 : cs[o + 3]? = some (.int .i32 pos)) (h4 : cs[o + 4]? = some oldop) (h5 : cs[o + 5]? = some olddata)
    (hsb : sb ≠ b) (hbyte : w.cell? ⟨sb, so + off, none⟩ = some (.int .u8 opv)) :
    Calls Tryz.prog 34 #[.pointer (some ⟨b, o, none⟩)] w fun e w' => e = .returned (.bool true) ∧
      Blk w' w.heap.size 137 #[.int .u8 opv, .string nm, .int .i64 (L + 1)] ∧
      Blk w' b t (tokSet cs o (pos + 1) (off + (L + 1)) (.pointer (some ⟨w.heap.size, 0, none⟩)) (.slice (some ⟨sb, so + off + 1, none⟩) L (c - off - 1))) ∧ Fm (M1 b) w w' := by
  have hbl := hB.lt
  have c3 := (hB.cell (o + 3)).trans h3
  have hf := hB.frozen
  have hdone := done_any w b o n c (some ⟨sb, so, none⟩) off (by omega) (by omega) hn ((hB.cell (o + 6)).trans h6) ((hB.cell (o + 2)).trans h2) ((hB.cell o).trans h00)
  go_enter Tryz.func34, Tryz.ntmps34
  go_wp2_with fail
  refine hdone.mono ?_
  clear hdone
  rintro e w1 ⟨rfl, k1, rfl⟩
  go_wp2_with fail
  clear c3 hf
  have hB1 := (hB.drewN k1).set_ (o + 3) (.int .i32 (pos + 1))
  have hF1 : Fm (M1 b) w ((w.drewN k1).setCell ⟨b, o + 3, none⟩ (.int .i32 (pos + 1))) := Fm.setCell (M := M1 b) (p := ⟨b, o + 3, none⟩) ((Fm.refl _ w).drewN k1) (fun _ => rfl) _
  have hbyte1 : ((w.drewN k1).setCell ⟨b, o + 3, none⟩ (.int .i32 (pos + 1))).cell? ⟨sb, so + off, none⟩ = some (.int .u8 opv) := by
    rw [World.cell?_setCell_far _ ⟨b, o + 3, none⟩ ⟨sb, so + off, none⟩ _ (Ne.symm hsb)]; exact hbyte
  have hs1 : ((w.drewN k1).setCell ⟨b, o + 3, none⟩ (.int .i32 (pos + 1))).heap.size = w.heap.size := by simp [World.setCell]
  generalize (w.drewN k1).setCell ⟨b, o + 3, none⟩ (.int .i32 (pos + 1)) = W1 at *
  have c0 := (hB1.cell o).trans (get_set h00 (by omega))
  have c2 := (hB1.cell (o + 2)).trans (get_set h2 (by omega))
  have c4 := (hB1.cell (o + 4)).trans (get_set h4 (by omega))
  have c5 := (hB1.cell (o + 5)).trans (get_set h5 (by omega))
  have hf := hB1.frozen
  have hb1 : b < W1.heap.size := hB1.lt
  have hi0 : (0 : Int) ≤ (off : Int) := by omega
  have hi1 : (off : Int) < (n : Int) := by omega
  have HS := Lib.hid hs1
  have HB := Lib.hid hB1
  have HF := Lib.hid hF1
  have H0 := Lib.hid hB
  clear hs1 hB1 hF1 hB h6 h2 h00 h3 h4 h5
  go_still_tail 10, (by kernel_rfl)
  change wpList _ _ _ _ _ W1.drew
  go_wp2_with (go_at_call 55; refine (hop _).mono ?_; rintro e w' ⟨rfl, rfl⟩)
  have hco : ¬ (c = off) := by omega
  have hnc : (n : Int) ≤ (c : Int) := by omega
  have hon : (off : Int) ≤ (n : Int) := by omega
  go_quiet (fail)
  rename_i nq
  go_wp2_with fail
  have hB2 := (HB.out.alloc (.cells #[.int .u8 opv, .string nm, .int .i64 (L + 1)] 137)).drewN (1 + nq)
  have hN2 := (Blk.new W1 137 #[.int .u8 opv, .string nm, .int .i64 (L + 1)]).drewN (1 + nq)
  have hF2 := (HF.out.alloc (.cells #[.int .u8 opv, .string nm, .int .i64 (L + 1)] 137)).drewN (1 + nq)
  have hnb : W1.heap.size ≠ b := by omega
  generalize (W1.alloc (.cells #[.int .u8 opv, .string nm, .int .i64 (L + 1)] 137)).drewN (1 + nq) = W2 at *
  have e2 : W2.cell? ⟨b, o + 2, none⟩ = some (.int .i32 off) := by rw [hB2.cell, ← HB.out.cell]; exact c2
  have e4 : W2.cell? ⟨b, o + 4, none⟩ = some oldop := by rw [hB2.cell, ← HB.out.cell]; exact c4
  have e5 : W2.cell? ⟨b, o + 5, none⟩ = some olddata := by rw [hB2.cell, ← HB.out.cell]; exact c5
  have en : W2.cell? ⟨W1.heap.size, 2, none⟩ = some (.int .i64 (L + 1)) := by rw [hN2.cell]; rfl
  have ef := hB2.frozen
  have hb2 := hB2.lt
  have hL1 : (1 : Int) ≤ (L : Int) + 1 := by omega
  have hL2 : (L : Int) + 1 ≤ ((n - off : Nat) : Int) := by omega
  have hL3 : ((n - off : Nat) : Int) ≤ ((c - off : Nat) : Int) := by omega
  have HB2 := Lib.hid hB2
  have HN2 := Lib.hid hN2
  have HF2 := Lib.hid hF2
  clear hB2 hN2 hF2 c0 c2 c4 c5 hf hbyte1 hbyte
  go_still_tail 12, (by kernel_rfl)
  change wpList _ _ _ _ _ W2.drew
  go_wp2
  go_ret
  rw [← HS.out]
  refine ⟨rfl, ?_, ?_, ?_⟩
  · exact (((HN2.out.far (p := ⟨b, o + 2, none⟩) hnb _).far (p := ⟨b, o + 4, none⟩) hnb _).far (p := ⟨b, o + 5, none⟩) hnb _).drew
  · exact (((HB2.out.set_ _ _).set_ _ _).set_ _ _).drew
  · exact (((HF2.out.setCell (p := ⟨b, o + 2, none⟩) (fun _ => rfl) _).setCell (p := ⟨b, o + 4, none⟩) (fun _ => rfl) _).setCell (p := ⟨b, o + 5, none⟩) (fun _ => rfl) _).drew

end Go.Proofs.YtafpgikhcjildaaGreatDoor
