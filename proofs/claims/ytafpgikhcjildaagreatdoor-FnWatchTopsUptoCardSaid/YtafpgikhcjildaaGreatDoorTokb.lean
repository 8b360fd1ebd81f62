/- The tokenizer at the opcodes that tell the length of what they push: PUSHDATA1, PUSHDATA2. -/
import Derived.Test.YtafpgikhcjildaaGreatDoorTok
import Derived.Test.YtafpgikhcjildaaGreatDoorReg
import Derived.WalkArith
namespace Go.Proofs.YtafpgikhcjildaaGreatDoor
open Go.RowKit Go.Proofs

set_option maxRecDepth 100000

set_option maxHeartbeats 1000000 in
/-- Next at PUSHDATA1. -/
theorem next_pd1 (w : World) (b o t n c : Nat) (cs : Array Value) (off : Nat) (pos : Int) (oldop olddata : Value) (nm : ByteArray) (sb so : Nat)
    (L : Nat) (hL0 : 1 ≤ L) (hL : L ≤ 255) (hop : OpIs 76 nm (-1)) (h1 : off + 2 + L ≤ n) (hc : n ≤ c) (hn : n ≤ 1000000000) (hp0 : -1 ≤ pos) (hp : pos ≤ 2147483000)
    (hB : Blk w b t cs)
    (h6 : cs[o + 6]? = some .nilIface) (h2 : cs[o + 2]? = some (.int .i32 off)) (h00 : cs[o]? = some (.slice (some ⟨sb, so, none⟩) n c))
    (h3 : cs[o + 3]? = some (.int .i32 pos)) (h4 : cs[o + 4]? = some oldop) (h5 : cs[o + 5]? = some olddata)
    (hsb : sb ≠ b) (hbyte : w.cell? ⟨sb, so + off, none⟩ = some (.int .u8 76)) (hlen : w.cell? ⟨sb, so + (off + 1), none⟩ = some (.int .u8 L)) :
    Calls Tryz.prog 34 #[.pointer (some ⟨b, o, none⟩)] w fun e w' => e = .returned (.bool true) ∧
      Blk w' w.heap.size 137 #[.int .u8 76, .string nm, .int .i64 (-1)] ∧
      Blk w' b t (tokSet cs o (pos + 1) (off + (L + 2)) (.pointer (some ⟨w.heap.size, 0, none⟩)) (.slice (some ⟨sb, so + (off + 1) + 1, none⟩) L (c - (off + 1) - 1))) ∧ Fm (M1 b) w w' := by
  have hbl := hB.lt
  have c3 := (hB.cell (o + 3)).trans h3
  have hf := hB.frozen
  have hdone := done_any w b o n c (some ⟨sb, so, none⟩) off (by omega) (by omega) (by omega) ((hB.cell (o + 6)).trans h6) ((hB.cell (o + 2)).trans h2) ((hB.cell o).trans h00)
  go_enter Tryz.func34, Tryz.ntmps34
  go_wp2_with fail
  refine hdone.mono ?_
  clear hdone
  rintro e w1 ⟨rfl, k1, rfl⟩
  go_wp2_with fail
  clear c3 hf
  have hB1 := (hB.drewN k1).set_ (o + 3) (.int .i32 (pos + 1))
  have hF1 : Fm (M1 b) w ((w.drewN k1).setCell ⟨b, o + 3, none⟩ (.int .i32 (pos + 1))) := Fm.setCell (M := M1 b) (p := ⟨b, o + 3, none⟩) ((Fm.refl _ w).drewN k1) (fun _ => rfl) _
  have hbyte1 : ((w.drewN k1).setCell ⟨b, o + 3, none⟩ (.int .i32 (pos + 1))).cell? ⟨sb, so + off, none⟩ = some (.int .u8 76) := by
    rw [World.cell?_setCell_far _ ⟨b, o + 3, none⟩ ⟨sb, so + off, none⟩ _ (Ne.symm hsb)]; exact hbyte
  have hlen1 : ((w.drewN k1).setCell ⟨b, o + 3, none⟩ (.int .i32 (pos + 1))).cell? ⟨sb, so + (off + 1), none⟩ = some (.int .u8 L) := by
    rw [World.cell?_setCell_far _ ⟨b, o + 3, none⟩ ⟨sb, so + (off + 1), none⟩ _ (Ne.symm hsb)]; exact hlen
  have hs1 : ((w.drewN k1).setCell ⟨b, o + 3, none⟩ (.int .i32 (pos + 1))).heap.size = w.heap.size := by simp [World.setCell]
  generalize (w.drewN k1).setCell ⟨b, o + 3, none⟩ (.int .i32 (pos + 1)) = W1 at *
  have c0 := (hB1.cell o).trans (get_set h00 (by omega))
  have c2 := (hB1.cell (o + 2)).trans (get_set h2 (by omega))
  have c4 := (hB1.cell (o + 4)).trans (get_set h4 (by omega))
  have c5 := (hB1.cell (o + 5)).trans (get_set h5 (by omega))
  have hf := hB1.frozen
  have hb1 : b < W1.heap.size := hB1.lt
  have hi0 : (0 : Int) ≤ (off : Int) := by omega
  have hi1 : (off : Int) < (n : Int) := by omega
  have HS := Lib.hid hs1
  have HB := Lib.hid hB1
  have HF := Lib.hid hF1
  have H0 := Lib.hid hB
  have HL := Lib.hid hlen1
  clear hs1 hB1 hF1 hB h6 h2 h00 h3 h4 h5 hlen1 hlen
  go_still_tail 10, (by kernel_rfl)
  change wpList _ _ _ _ _ W1.drew
  go_wp2_with (go_at_call 55; refine (hop _).mono ?_; rintro e w' ⟨rfl, rfl⟩)
  obtain ⟨k, hk⟩ : ∃ k : Nat, off + 1 = k := ⟨_, rfl⟩
  have hki : (off : Int) + 1 = (k : Int) := by omega
  have hk1 : (0 : Int) ≤ (k : Int) := by omega
  have hk2 : (k : Int) ≤ (n : Int) := by omega
  have hco : ¬ (c = k) := by omega
  have hnc : (n : Int) ≤ (c : Int) := by omega
  go_quiet (fail)
  rename_i nq
  have hB2 := (HB.out.alloc (.cells #[.int .u8 76, .string nm, .int .i64 (-1)] 137)).drew.drewN nq
  have hN2 := (Blk.new W1 137 #[.int .u8 76, .string nm, .int .i64 (-1)]).drew.drewN nq
  have hF2 := (HF.out.alloc (.cells #[.int .u8 76, .string nm, .int .i64 (-1)] 137)).drew.drewN nq
  have hbk : ((W1.alloc (.cells #[.int .u8 76, .string nm, .int .i64 (-1)] 137)).drew.drewN nq).cell? ⟨sb, so + k, none⟩ = some (.int .u8 L) := by
    rw [← hk]
    exact (World.cell?_alloc_some W1 ⟨sb, so + (off + 1), none⟩ _ (by rw [HL.out]; rfl)).trans HL.out
  have hnb : W1.heap.size ≠ b := by omega
  have en : ((W1.alloc (.cells #[.int .u8 76, .string nm, .int .i64 (-1)] 137)).drew.drewN nq).cell? ⟨W1.heap.size, 2, none⟩ = some (.int .i64 (-1)) := by rw [hN2.cell]; rfl
  have e2 : ((W1.alloc (.cells #[.int .u8 76, .string nm, .int .i64 (-1)] 137)).drew.drewN nq).cell? ⟨b, o + 2, none⟩ = some (.int .i32 off) := by rw [hB2.cell, ← HB.out.cell]; exact c2
  have e4 : ((W1.alloc (.cells #[.int .u8 76, .string nm, .int .i64 (-1)] 137)).drew.drewN nq).cell? ⟨b, o + 4, none⟩ = some oldop := by rw [hB2.cell, ← HB.out.cell]; exact c4
  have e5 : ((W1.alloc (.cells #[.int .u8 76, .string nm, .int .i64 (-1)] 137)).drew.drewN nq).cell? ⟨b, o + 5, none⟩ = some olddata := by rw [hB2.cell, ← HB.out.cell]; exact c5
  have ef := hB2.frozen
  have hb2 := hB2.lt
  generalize (W1.alloc (.cells #[.int .u8 76, .string nm, .int .i64 (-1)] 137)).drew.drewN nq = W2 at *
  obtain ⟨m, hm⟩ : ∃ m, n - k = m := ⟨_, rfl⟩
  obtain ⟨c', hc'⟩ : ∃ c', c - k = c' := ⟨_, rfl⟩
  have hm0 : 0 < m := by omega
  have hm1 : (1 : Int) ≤ (m : Int) := by omega
  have hmi : (0 : Int) < (m : Int) := by omega
  have hmc : (m : Int) ≤ (c' : Int) := by omega
  have hm9 : (m : Int) ≤ 1000000000 := by omega
  have hc1 : ¬ (c' = 1) := by omega
  have hLm : (L : Int) ≤ ((m - 1 : Nat) : Int) := by omega
  have hL0' : (0 : Int) ≤ (L : Int) := by omega
  have hL9 : (L : Int) ≤ 255 := by omega
  have hmc2 : ((m - 1 : Nat) : Int) ≤ ((c' - 1 : Nat) : Int) := by omega
  have HB2 := Lib.hid hB2
  have HN2 := Lib.hid hN2
  have HF2 := Lib.hid hF2
  have hoi : (off : Int) ≤ 1000000000 := by omega
  clear hB2 hN2 hF2 c0 c2 c4 c5 hf hbyte1 hbyte hk1 hk2 hco hnc
  rw [hm, hc']
  go_wp2_with fail
  go_still_tail 16, (by kernel_rfl)
  change wpList _ _ _ _ _ W2.drew
  go_wp2
  go_ret
  rw [← HS.out]
  have eo : (off : Int) + (L + 2) = off + (2 + L) := by omega
  rw [eo, hk]
  subst hc'
  refine ⟨rfl, ?_, ?_, ?_⟩
  · exact (((HN2.out.far (p := ⟨b, o + 2, none⟩) hnb _).far (p := ⟨b, o + 4, none⟩) hnb _).far (p := ⟨b, o + 5, none⟩) hnb _).drew
  · exact (((HB2.out.set_ _ _).set_ _ _).set_ _ _).drew
  · exact (((HF2.out.setCell (p := ⟨b, o + 2, none⟩) (fun _ => rfl) _).setCell (p := ⟨b, o + 4, none⟩) (fun _ => rfl) _).setCell (p := ⟨b, o + 5, none⟩) (fun _ => rfl) _).drew
theorem u16_or_nat (a b : Nat) (ha : a < 256) (hb : b < 256) : bits .or .u16 (a : Int) ((b : Int) * 256) = ((a + 256 * b : Nat) : Int) := by
  show IntKind.u16.wrap ((BitVec.ofInt 16 (a : Int) ||| BitVec.ofInt 16 ((b : Int) * 256)).toNat : Int) = _
  have e1 : (BitVec.ofInt 16 (a : Int)).toNat = a := by
    simp only [BitVec.toNat_ofInt]
    omega
  have e2 : (BitVec.ofInt 16 ((b : Int) * 256)).toNat = 2 ^ 8 * b := by
    simp only [BitVec.toNat_ofInt]
    omega
  rw [BitVec.toNat_or, e1, e2, Nat.or_comm, ← Nat.two_pow_add_eq_or_of_lt (show a < 2 ^ 8 by omega)]
  show (((2 ^ 8 * b + a : Nat) : Int) % 65536 : Int) = _
  omega

/-- Two bytes of a script, the least first. -/
theorem uint16_any (w : World) (sb so c b0 b1 : Nat) (hb0 : b0 < 256) (hb1 : b1 < 256) (h0 : w.cell? ⟨sb, so, none⟩ = some (.int .u8 b0)) (h1 : w.cell? ⟨sb, so + 1, none⟩ = some (.int .u8 b1)) :
    Calls Tryz.prog 56 #[.agg #[], .slice (some ⟨sb, so, none⟩) 2 c] w fun e w' => e = .returned (.int .u16 ((b0 + 256 * b1 : Nat) : Int)) ∧ Below w.heap.size w w' := by
  have hl := World.block_lt_of_cell? w _ h0
  have hB : Below w.heap.size w (w.alloc (.cells #[] 139)) := (Below.refl _ _).alloc (Nat.le_refl _) _
  have g0 : (w.alloc (.cells #[] 139)).cell? ⟨sb, so, none⟩ = some (.int .u8 b0) := (World.cell?_alloc_some w _ _ (by rw [h0]; rfl)).trans h0
  have g1 : (w.alloc (.cells #[] 139)).cell? ⟨sb, so + 1, none⟩ = some (.int .u8 b1) := (World.cell?_alloc_some w _ _ (by rw [h1]; rfl)).trans h1
  have i0 : (0 : Int) ≤ (b0 : Int) := by omega
  have i1 : (b0 : Int) < 256 := by omega
  have i2 : (0 : Int) ≤ (b1 : Int) := by omega
  have i3 : (b1 : Int) < 256 := by omega
  clear h0 h1
  go_enter Tryz.func56, Tryz.ntmps56
  go_wp2_with fail
  go_quiet (fail)
  rename_i nq
  go_wp2
  go_ret
  refine ⟨?_, ?_⟩
  · show Ending.returned (Value.int .u16 (bits .or .u16 (b0 : Int) ((b1 : Int) * 256))) = _
    rw [u16_or_nat b0 b1 hb0 hb1]
  · exact ⟨hB.os, hB.tape, hB.output, hB.size, hB.block⟩
set_option maxHeartbeats 1000000 in
/-- Next at PUSHDATA2. -/
theorem next_pd2 (w : World) (b o t n c : Nat) (cs : Array Value) (off : Nat) (pos : Int) (oldop olddata : Value) (nm : ByteArray) (sb so : Nat)
    (L b0 b1 : Nat) (hL0 : 1 ≤ L) (hL : L ≤ 65535) (hb0 : b0 < 256) (hb1 : b1 < 256) (hLb : b0 + 256 * b1 = L) (hop : OpIs 77 nm (-2)) (h1 : off + 3 + L ≤ n) (hc : n ≤ c) (hn : n ≤ 1000000000) (hp0 : -1 ≤ pos) (hp : pos ≤ 2147483000)
    (hB : Blk w b t cs)
    (h6 : cs[o + 6]? = some .nilIface) (h2 : cs[o + 2]? = some (.int .i32 off)) (h00 : cs[o]? = some (.slice (some ⟨sb, so, none⟩) n c))
    (h3 : cs[o + 3]? = some (.int .i32 pos)) (h4 : cs[o + 4]? = some oldop) (h5 : cs[o + 5]? = some olddata)
    (hsb : sb ≠ b) (hbyte : w.cell? ⟨sb, so + off, none⟩ = some (.int .u8 77)) (hlen : w.cell? ⟨sb, so + (off + 1), none⟩ = some (.int .u8 b0)) (hlenb : w.cell? ⟨sb, so + (off + 1) + 1, none⟩ = some (.int .u8 b1)) :
    Calls Tryz.prog 34 #[.pointer (some ⟨b, o, none⟩)] w fun e w' => e = .returned (.bool true) ∧
      Blk w' w.heap.size 137 #[.int .u8 77, .string nm, .int .i64 (-2)] ∧
      Blk w' b t (tokSet cs o (pos + 1) (off + (L + 3)) (.pointer (some ⟨w.heap.size, 0, none⟩)) (.slice (some ⟨sb, so + (off + 1) + 2, none⟩) L (c - (off + 1) - 2))) ∧ Fm (M1 b) w w' := by
  have hbl := hB.lt
  have c3 := (hB.cell (o + 3)).trans h3
  have hf := hB.frozen
  have hdone := done_any w b o n c (some ⟨sb, so, none⟩) off (by omega) (by omega) (by omega) ((hB.cell (o + 6)).trans h6) ((hB.cell (o + 2)).trans h2) ((hB.cell o).trans h00)
  go_enter Tryz.func34, Tryz.ntmps34
  go_wp2_with fail
  refine hdone.mono ?_
  clear hdone
  rintro e w1 ⟨rfl, k1, rfl⟩
  go_wp2_with fail
  clear c3 hf
  have hB1 := (hB.drewN k1).set_ (o + 3) (.int .i32 (pos + 1))
  have hF1 : Fm (M1 b) w ((w.drewN k1).setCell ⟨b, o + 3, none⟩ (.int .i32 (pos + 1))) := Fm.setCell (M := M1 b) (p := ⟨b, o + 3, none⟩) ((Fm.refl _ w).drewN k1) (fun _ => rfl) _
  have hbyte1 : ((w.drewN k1).setCell ⟨b, o + 3, none⟩ (.int .i32 (pos + 1))).cell? ⟨sb, so + off, none⟩ = some (.int .u8 77) := by
    rw [World.cell?_setCell_far _ ⟨b, o + 3, none⟩ ⟨sb, so + off, none⟩ _ (Ne.symm hsb)]; exact hbyte
  have hlen1 : ((w.drewN k1).setCell ⟨b, o + 3, none⟩ (.int .i32 (pos + 1))).cell? ⟨sb, so + (off + 1), none⟩ = some (.int .u8 b0) := by
    rw [World.cell?_setCell_far _ ⟨b, o + 3, none⟩ ⟨sb, so + (off + 1), none⟩ _ (Ne.symm hsb)]; exact hlen
  have hlen2 : ((w.drewN k1).setCell ⟨b, o + 3, none⟩ (.int .i32 (pos + 1))).cell? ⟨sb, so + (off + 1) + 1, none⟩ = some (.int .u8 b1) := by
    rw [World.cell?_setCell_far _ ⟨b, o + 3, none⟩ ⟨sb, so + (off + 1) + 1, none⟩ _ (Ne.symm hsb)]; exact hlenb
  have hs1 : ((w.drewN k1).setCell ⟨b, o + 3, none⟩ (.int .i32 (pos + 1))).heap.size = w.heap.size := by simp [World.setCell]
  generalize (w.drewN k1).setCell ⟨b, o + 3, none⟩ (.int .i32 (pos + 1)) = W1 at *
  have c0 := (hB1.cell o).trans (get_set h00 (by omega))
  have c2 := (hB1.cell (o + 2)).trans (get_set h2 (by omega))
  have c4 := (hB1.cell (o + 4)).trans (get_set h4 (by omega))
  have c5 := (hB1.cell (o + 5)).trans (get_set h5 (by omega))
  have hf := hB1.frozen
  have hbl1 : b < W1.heap.size := hB1.lt
  have hi0 : (0 : Int) ≤ (off : Int) := by omega
  have hi1 : (off : Int) < (n : Int) := by omega
  have HS := Lib.hid hs1
  have HB := Lib.hid hB1
  have HF := Lib.hid hF1
  have H0 := Lib.hid hB
  have HL := Lib.hid hlen1
  have HM := Lib.hid hlen2
  clear hs1 hB1 hF1 hB h6 h2 h00 h3 h4 h5 hlen1 hlen hlen2 hlenb
  go_still_tail 10, (by kernel_rfl)
  change wpList _ _ _ _ _ W1.drew
  go_wp2_with (go_at_call 55; refine (hop _).mono ?_; rintro e w' ⟨rfl, rfl⟩)
  obtain ⟨k, hk⟩ : ∃ k : Nat, off + 1 = k := ⟨_, rfl⟩
  have hki : (off : Int) + 1 = (k : Int) := by omega
  have hk1 : (0 : Int) ≤ (k : Int) := by omega
  have hk2 : (k : Int) ≤ (n : Int) := by omega
  have hco : ¬ (c = k) := by omega
  have hnc : (n : Int) ≤ (c : Int) := by omega
  go_quiet (fail)
  rename_i nq
  have hB2 := (HB.out.alloc (.cells #[.int .u8 77, .string nm, .int .i64 (-2)] 137)).drew.drewN nq
  have hN2 := (Blk.new W1 137 #[.int .u8 77, .string nm, .int .i64 (-2)]).drew.drewN nq
  have hF2 := (HF.out.alloc (.cells #[.int .u8 77, .string nm, .int .i64 (-2)] 137)).drew.drewN nq
  have hbk : ((W1.alloc (.cells #[.int .u8 77, .string nm, .int .i64 (-2)] 137)).drew.drewN nq).cell? ⟨sb, so + k, none⟩ = some (.int .u8 b0) := by
    rw [← hk]
    exact (World.cell?_alloc_some W1 ⟨sb, so + (off + 1), none⟩ _ (by rw [HL.out]; rfl)).trans HL.out
  have hbk1 : ((W1.alloc (.cells #[.int .u8 77, .string nm, .int .i64 (-2)] 137)).drew.drewN nq).cell? ⟨sb, so + k + 1, none⟩ = some (.int .u8 b1) := by
    rw [← hk]
    exact (World.cell?_alloc_some W1 ⟨sb, so + (off + 1) + 1, none⟩ _ (by rw [HM.out]; rfl)).trans HM.out
  have hnb : W1.heap.size ≠ b := by omega
  have en : ((W1.alloc (.cells #[.int .u8 77, .string nm, .int .i64 (-2)] 137)).drew.drewN nq).cell? ⟨W1.heap.size, 2, none⟩ = some (.int .i64 (-2)) := by rw [hN2.cell]; rfl
  have e2 : ((W1.alloc (.cells #[.int .u8 77, .string nm, .int .i64 (-2)] 137)).drew.drewN nq).cell? ⟨b, o + 2, none⟩ = some (.int .i32 off) := by rw [hB2.cell, ← HB.out.cell]; exact c2
  have e4 : ((W1.alloc (.cells #[.int .u8 77, .string nm, .int .i64 (-2)] 137)).drew.drewN nq).cell? ⟨b, o + 4, none⟩ = some oldop := by rw [hB2.cell, ← HB.out.cell]; exact c4
  have e5 : ((W1.alloc (.cells #[.int .u8 77, .string nm, .int .i64 (-2)] 137)).drew.drewN nq).cell? ⟨b, o + 5, none⟩ = some olddata := by rw [hB2.cell, ← HB.out.cell]; exact c5
  have ef := hB2.frozen
  have hb2 := hB2.lt
  generalize (W1.alloc (.cells #[.int .u8 77, .string nm, .int .i64 (-2)] 137)).drew.drewN nq = W2 at *
  obtain ⟨m, hm⟩ : ∃ m, n - k = m := ⟨_, rfl⟩
  obtain ⟨c', hc'⟩ : ∃ c', c - k = c' := ⟨_, rfl⟩
  have hm1 : (2 : Int) ≤ (m : Int) := by omega
  have hmc : (m : Int) ≤ (c' : Int) := by omega
  have hc2 : (2 : Int) ≤ (c' : Int) := by omega
  have hm9 : (m : Int) ≤ 1000000000 := by omega
  have hc1 : ¬ (c' = 2) := by omega
  have hLm : (L : Int) ≤ ((m - 2 : Nat) : Int) := by omega
  have hL0' : (0 : Int) ≤ (L : Int) := by omega
  have hL9 : (L : Int) ≤ 65535 := by omega
  have hmc2 : ((m - 2 : Nat) : Int) ≤ ((c' - 2 : Nat) : Int) := by omega
  have HB2 := Lib.hid hB2
  have HN2 := Lib.hid hN2
  have HF2 := Lib.hid hF2
  have hoi : (off : Int) ≤ 1000000000 := by omega
  clear hB2 hN2 hF2 c0 c2 c4 c5 hf hbyte1 hbyte hk1 hk2 hco hnc
  rw [hm, hc']
  go_wp2_with fail
  have hw32 : IntKind.i32.wrap (L : Int) = L := by
    simp only [IntKind.wrap_i32]
    omega
  refine wp_region_held_drew (S := fun _ => True) (by kernel_rfl) trivial (fun hHeld => ?_)
  refine held_take 0 152 (.agg #[]) rfl rfl (by kernel_rfl) (by kernel_rfl) (by kernel_rfl) (fun _ _ _ h => h) (Or.inl ⟨wanted_plain rfl _, fun w _ => by kernel_rfl⟩) trivial ?_
  simp only [List.set_cons_zero, List.set_cons_succ]
  refine held_take 1 153 (.slice (some ⟨sb, so + k, none⟩) m c') rfl rfl (by kernel_rfl) (by kernel_rfl) (by kernel_rfl) (fun _ _ _ h => h) (Or.inl ⟨wanted_plain rfl _, fun w _ => by kernel_rfl⟩) trivial ?_
  simp only [List.set_cons_zero, List.set_cons_succ]
  refine held_take 2 154 (.slice (some ⟨sb, so + k, none⟩) 2 c') rfl rfl (by kernel_rfl) (by kernel_rfl) (by kernel_rfl) (fun _ _ _ h => h) (Or.inl ⟨wanted_plain rfl _, fun w _ => by go_simp⟩) trivial ?_
  simp only [List.set_cons_zero, List.set_cons_succ]
  refine wpAnyH_ready (rs := [3]) (by kernel_rfl) (by simp) ?_
  refine AllReadyH.cons (o := _) rfl (fun K hK => ?_) AllReadyH.nil
  refine step_enter 155 56 #[.agg #[], .slice (some ⟨sb, so + k, none⟩) 2 c'] rfl rfl (by kernel_rfl) ?_
  refine (uint16_any W2.drew sb (so + k) c' b0 b1 hb0 hb1 hbk hbk1).mono ?_
  rintro e W3 ⟨rfl, hb3⟩
  rw [hLb]
  refine ⟨_, rfl, ?_⟩
  refine hK.out _ _ trivial (fun hHeld => ?_)
  clear hK K
  simp only [List.set_cons_zero, List.set_cons_succ]
  refine held_take 4 156 (.int .i32 L) rfl rfl (by kernel_rfl) (by kernel_rfl) (by kernel_rfl) (fun _ _ _ h => h) (Or.inl ⟨wanted_plain rfl _, fun w _ => by go_simp⟩) trivial ?_
  simp only [List.set_cons_zero, List.set_cons_succ]
  refine held_take 5 8 (.int .i32 L) rfl rfl (by kernel_rfl) (by kernel_rfl) (by kernel_rfl) (fun _ _ _ h => h) (Or.inl ⟨wanted_plain rfl _, fun w _ => by kernel_rfl⟩) trivial ?_
  simp only [List.set_cons_zero, List.set_cons_succ]
  refine wpAnyH_done (by kernel_rfl) ?_ _
  have HB3 := Lib.hid (HB2.out.drew.below hb3 HB2.out.lt)
  have HN3 := Lib.hid (HN2.out.drew.below hb3 HN2.out.lt)
  have HF3 := Lib.hid (HF2.out.drew.below hb3)
  have en' : W3.cell? ⟨W1.heap.size, 2, none⟩ = some (.int .i64 (-2)) := by rw [HN3.out.cell]; rfl
  have e2' : W3.cell? ⟨b, o + 2, none⟩ = some (.int .i32 off) := by rw [HB3.out.cell, ← HB2.out.cell]; exact e2
  have e4' : W3.cell? ⟨b, o + 4, none⟩ = some oldop := by rw [HB3.out.cell, ← HB2.out.cell]; exact e4
  have e5' : W3.cell? ⟨b, o + 5, none⟩ = some olddata := by rw [HB3.out.cell, ← HB2.out.cell]; exact e5
  have ef' := HB3.out.frozen
  have hb3' := HB3.out.lt
  clear en e2 e4 e5 ef hb2 hbk hbk1 hb3 HB2 HN2 HF2 hHeld
  go_wp2_with fail
  go_still_tail 16, (by kernel_rfl)
  change wpList _ _ _ _ _ W3.drew
  go_wp2
  go_ret
  rw [← HS.out]
  have eo : (off : Int) + (L + 3) = off + (3 + L) := by omega
  rw [eo, hk]
  subst hc'
  refine ⟨rfl, ?_, ?_, ?_⟩
  · exact (((HN3.out.far (p := ⟨b, o + 2, none⟩) hnb _).far (p := ⟨b, o + 4, none⟩) hnb _).far (p := ⟨b, o + 5, none⟩) hnb _).drew
  · exact (((HB3.out.set_ _ _).set_ _ _).set_ _ _).drew
  · exact (((HF3.out.setCell (p := ⟨b, o + 2, none⟩) (fun _ => rfl) _).setCell (p := ⟨b, o + 4, none⟩) (fun _ => rfl) _).setCell (p := ⟨b, o + 5, none⟩) (fun _ => rfl) _).drew
end Go.Proofs.YtafpgikhcjildaaGreatDoor
