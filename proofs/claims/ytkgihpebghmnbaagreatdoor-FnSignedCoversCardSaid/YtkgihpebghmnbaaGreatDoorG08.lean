/- The tokenizer at the opcodes that tell the length of what they push: PUSHDATA1, PUSHDATA2. Tokens of a script, one behind the other; a script that is whole. -/
import Derived.Test.YtkgihpebghmnbaaGreatDoorG06
import Derived.Test.YtkgihpebghmnbaaGreatDoorG07
import Derived.WalkArith
import Derived.Deep.LoopGhost
namespace Go.Proofs.YtkgihpebghmnbaaGreatDoor
open Go.RowKit Go.Proofs

set_option maxRecDepth 100000

set_option maxHeartbeats 1000000 in
/-- Next at PUSHDATA1. -/
theorem next_pd1 (w : World) (b o t n c : Nat) (cs : Array Value) (off : Nat) (pos : Int) (oldop olddata : Value) (nm : ByteArray) (sb so : Nat)
    (L : Nat) (hL0 : 1 ≤ L) (hL : L ≤ 255) (hop : OpIs 76 nm (-1)) (h1 : off + 2 + L ≤ n) (hc : n ≤ c) (hn : n ≤ 1000000000) (hp0 : -1 ≤ pos) (hp : pos ≤ 2147483000)
    (hB : Blk w b t cs)
    (h6 : cs[o + 6]? = some .nilIface) (h2 : cs[o + 2]? = some (.int .i32 off)) (h00 : cs[o]? = some (.slice (some ⟨sb, so, none⟩) n c))
    (h3 : cs[o + 3]? = some (.int .i32 pos)) (h4 : cs[o + 4]? = some oldop) (h5 : cs[o + 5]? = some olddata)
    (hsb : sb ≠ b) (hbyte : w.cell? ⟨sb, so + off, none⟩ = some (.int .u8 76)) (hlen : w.cell? ⟨sb, so + (off + 1), none⟩ = some (.int .u8 L)) :
    Calls Tryz.prog 41 #[.pointer (some ⟨b, o, none⟩)] w fun e w' => e = .returned (.bool true) ∧
      Blk w' w.heap.size 154 #[.int .u8 76, .string nm, .int .i64 (-1)] ∧
      Blk w' b t (tokSet cs o (pos + 1) (off + (L + 2)) (.pointer (some ⟨w.heap.size, 0, none⟩)) (.slice (some ⟨sb, so + (off + 1) + 1, none⟩) L (c - (off + 1) - 1))) ∧ Fm (M1 b) w w' := by
  have hbl := hB.lt
  have c3 := (hB.cell (o + 3)).trans h3
  have hf := hB.frozen
  have hdone := done_any w b o n c (some ⟨sb, so, none⟩) off (by omega) (by omega) (by omega) ((hB.cell (o + 6)).trans h6) ((hB.cell (o + 2)).trans h2) ((hB.cell o).trans h00)
  go_enter Tryz.func41, Tryz.ntmps41
  go_wp2_with fail
  refine hdone.mono ?_
  clear hdone
  rintro e w1 ⟨rfl, k1, rfl⟩
  go_wp2_with fail
  clear c3 hf
  have hB1 := (hB.drewN k1).set_ (o + 3) (.int .i32 (pos + 1))
  have hF1 : Fm (M1 b) w ((w.drewN k1).setCell ⟨b, o + 3, none⟩ (.int .i32 (pos + 1))) := Fm.setCell (M := M1 b) (p := ⟨b, o + 3, none⟩) ((Fm.refl _ w).drewN k1) (fun _ => rfl) _
  have hbyte1 : ((w.drewN k1).setCell ⟨b, o + 3, none⟩ (.int .i32 (pos + 1))).cell? ⟨sb, so + off, none⟩ = some (.int .u8 76) := by
    rw [World.cell?_setCell_far _ ⟨b, o + 3, none⟩ ⟨sb, so + off, none⟩ _ (Ne.symm hsb)]; exact hbyte
  have hlen1 : ((w.drewN k1).setCell ⟨b, o + 3, none⟩ (.int .i32 (pos + 1))).cell? ⟨sb, so + (off + 1), none⟩ = some (.int .u8 L) := by
    rw [World.cell?_setCell_far _ ⟨b, o + 3, none⟩ ⟨sb, so + (off + 1), none⟩ _ (Ne.symm hsb)]; exact hlen
  have hs1 : ((w.drewN k1).setCell ⟨b, o + 3, none⟩ (.int .i32 (pos + 1))).heap.size = w.heap.size := by simp [World.setCell]
  generalize (w.drewN k1).setCell ⟨b, o + 3, none⟩ (.int .i32 (pos + 1)) = W1 at *
  have c0 := (hB1.cell o).trans (get_set h00 (by omega))
  have c2 := (hB1.cell (o + 2)).trans (get_set h2 (by omega))
  have c4 := (hB1.cell (o + 4)).trans (get_set h4 (by omega))
  have c5 := (hB1.cell (o + 5)).trans (get_set h5 (by omega))
  have hf := hB1.frozen
  have hb1 : b < W1.heap.size := hB1.lt
  have hi0 : (0 : Int) ≤ (off : Int) := by omega
  have hi1 : (off : Int) < (n : Int) := by omega
  have HS := Lib.hid hs1
  have HB := Lib.hid hB1
  have HF := Lib.hid hF1
  have H0 := Lib.hid hB
  have HL := Lib.hid hlen1
  clear hs1 hB1 hF1 hB h6 h2 h00 h3 h4 h5 hlen1 hlen
  go_still_tail 10, (by kernel_rfl)
  change wpList _ _ _ _ _ W1.drew
  go_wp2_with (go_at_call 68; refine (hop _).mono ?_; rintro e w' ⟨rfl, rfl⟩)
  obtain ⟨k, hk⟩ : ∃ k : Nat, off + 1 = k := ⟨_, rfl⟩
  have hki : (off : Int) + 1 = (k : Int) := by omega
  have hk1 : (0 : Int) ≤ (k : Int) := by omega
  have hk2 : (k : Int) ≤ (n : Int) := by omega
  have hco : ¬ (c = k) := by omega
  have hnc : (n : Int) ≤ (c : Int) := by omega
  go_quiet (fail)
  rename_i nq
  have hB2 := (HB.out.alloc (.cells #[.int .u8 76, .string nm, .int .i64 (-1)] 154)).drew.drewN nq
  have hN2 := (Blk.new W1 154 #[.int .u8 76, .string nm, .int .i64 (-1)]).drew.drewN nq
  have hF2 := (HF.out.alloc (.cells #[.int .u8 76, .string nm, .int .i64 (-1)] 154)).drew.drewN nq
  have hbk : ((W1.alloc (.cells #[.int .u8 76, .string nm, .int .i64 (-1)] 154)).drew.drewN nq).cell? ⟨sb, so + k, none⟩ = some (.int .u8 L) := by
    rw [← hk]
    exact (World.cell?_alloc_some W1 ⟨sb, so + (off + 1), none⟩ _ (by rw [HL.out]; rfl)).trans HL.out
  have hnb : W1.heap.size ≠ b := by omega
  have en : ((W1.alloc (.cells #[.int .u8 76, .string nm, .int .i64 (-1)] 154)).drew.drewN nq).cell? ⟨W1.heap.size, 2, none⟩ = some (.int .i64 (-1)) := by rw [hN2.cell]; rfl
  have e2 : ((W1.alloc (.cells #[.int .u8 76, .string nm, .int .i64 (-1)] 154)).drew.drewN nq).cell? ⟨b, o + 2, none⟩ = some (.int .i32 off) := by rw [hB2.cell, ← HB.out.cell]; exact c2
  have e4 : ((W1.alloc (.cells #[.int .u8 76, .string nm, .int .i64 (-1)] 154)).drew.drewN nq).cell? ⟨b, o + 4, none⟩ = some oldop := by rw [hB2.cell, ← HB.out.cell]; exact c4
  have e5 : ((W1.alloc (.cells #[.int .u8 76, .string nm, .int .i64 (-1)] 154)).drew.drewN nq).cell? ⟨b, o + 5, none⟩ = some olddata := by rw [hB2.cell, ← HB.out.cell]; exact c5
  have ef := hB2.frozen
  have hb2 := hB2.lt
  generalize (W1.alloc (.cells #[.int .u8 76, .string nm, .int .i64 (-1)] 154)).drew.drewN nq = W2 at *
  obtain ⟨m, hm⟩ : ∃ m, n - k = m := ⟨_, rfl⟩
  obtain ⟨c', hc'⟩ : ∃ c', c - k = c' := ⟨_, rfl⟩
  have hm0 : 0 < m := by omega
  have hm1 : (1 : Int) ≤ (m : Int) := by omega
  have hmi : (0 : Int) < (m : Int) := by omega
  have hmc : (m : Int) ≤ (c' : Int) := by omega
  have hm9 : (m : Int) ≤ 1000000000 := by omega
  have hc1 : ¬ (c' = 1) := by omega
  have hLm : (L : Int) ≤ ((m - 1 : Nat) : Int) := by omega
  have hL0' : (0 : Int) ≤ (L : Int) := by omega
  have hL9 : (L : Int) ≤ 255 := by omega
  have hmc2 : ((m - 1 : Nat) : Int) ≤ ((c' - 1 : Nat) : Int) := by omega
  have HB2 := Lib.hid hB2
  have HN2 := Lib.hid hN2
  have HF2 := Lib.hid hF2
  have hoi : (off : Int) ≤ 1000000000 := by omega
  clear hB2 hN2 hF2 c0 c2 c4 c5 hf hbyte1 hbyte hk1 hk2 hco hnc
  rw [hm, hc']
  go_wp2_with fail
  go_still_tail 16, (by kernel_rfl)
  change wpList _ _ _ _ _ W2.drew
  go_wp2
  go_ret
  rw [← HS.out]
  have eo : (off : Int) + (L + 2) = off + (2 + L) := by omega
  rw [eo, hk]
  subst hc'
  refine ⟨rfl, ?_, ?_, ?_⟩
  · exact (((HN2.out.far (p := ⟨b, o + 2, none⟩) hnb _).far (p := ⟨b, o + 4, none⟩) hnb _).far (p := ⟨b, o + 5, none⟩) hnb _).drew
  · exact (((HB2.out.set_ _ _).set_ _ _).set_ _ _).drew
  · exact (((HF2.out.setCell (p := ⟨b, o + 2, none⟩) (fun _ => rfl) _).setCell (p := ⟨b, o + 4, none⟩) (fun _ => rfl) _).setCell (p := ⟨b, o + 5, none⟩) (fun _ => rfl) _).drew
theorem u16_or_nat (a b : Nat) (ha : a < 256) (hb : b < 256) : bits .or .u16 (a : Int) ((b : Int) * 256) = ((a + 256 * b : Nat) : Int) := by
  show IntKind.u16.wrap ((BitVec.ofInt 16 (a : Int) ||| BitVec.ofInt 16 ((b : Int) * 256)).toNat : Int) = _
  have e1 : (BitVec.ofInt 16 (a : Int)).toNat = a := by
    simp only [BitVec.toNat_ofInt]
    omega
  have e2 : (BitVec.ofInt 16 ((b : Int) * 256)).toNat = 2 ^ 8 * b := by
    simp only [BitVec.toNat_ofInt]
    omega
  rw [BitVec.toNat_or, e1, e2, Nat.or_comm, ← Nat.two_pow_add_eq_or_of_lt (show a < 2 ^ 8 by omega)]
  show (((2 ^ 8 * b + a : Nat) : Int) % 65536 : Int) = _
  omega

/-- Two bytes of a script, the least first. -/
theorem uint16_any (w : World) (sb so c b0 b1 : Nat) (hb0 : b0 < 256) (hb1 : b1 < 256) (h0 : w.cell? ⟨sb, so, none⟩ = some (.int .u8 b0)) (h1 : w.cell? ⟨sb, so + 1, none⟩ = some (.int .u8 b1)) :
    Calls Tryz.prog 69 #[.agg #[], .slice (some ⟨sb, so, none⟩) 2 c] w fun e w' => e = .returned (.int .u16 ((b0 + 256 * b1 : Nat) : Int)) ∧ Below w.heap.size w w' := by
  have hl := World.block_lt_of_cell? w _ h0
  have hB : Below w.heap.size w (w.alloc (.cells #[] 156)) := (Below.refl _ _).alloc (Nat.le_refl _) _
  have g0 : (w.alloc (.cells #[] 156)).cell? ⟨sb, so, none⟩ = some (.int .u8 b0) := (World.cell?_alloc_some w _ _ (by rw [h0]; rfl)).trans h0
  have g1 : (w.alloc (.cells #[] 156)).cell? ⟨sb, so + 1, none⟩ = some (.int .u8 b1) := (World.cell?_alloc_some w _ _ (by rw [h1]; rfl)).trans h1
  have i0 : (0 : Int) ≤ (b0 : Int) := by omega
  have i1 : (b0 : Int) < 256 := by omega
  have i2 : (0 : Int) ≤ (b1 : Int) := by omega
  have i3 : (b1 : Int) < 256 := by omega
  clear h0 h1
  go_enter Tryz.func69, Tryz.ntmps69
  go_wp2_with fail
  go_quiet (fail)
  rename_i nq
  go_wp2
  go_ret
  refine ⟨?_, ?_⟩
  · show Ending.returned (Value.int .u16 (bits .or .u16 (b0 : Int) ((b1 : Int) * 256))) = _
    rw [u16_or_nat b0 b1 hb0 hb1]
  · exact ⟨hB.os, hB.tape, hB.output, hB.size, hB.block⟩
set_option maxHeartbeats 1000000 in
/-- Next at PUSHDATA2. -/
theorem next_pd2 (w : World) (b o t n c : Nat) (cs : Array Value) (off : Nat) (pos : Int) (oldop olddata : Value) (nm : ByteArray) (sb so : Nat)
    (L b0 b1 : Nat) (hL0 : 1 ≤ L) (hL : L ≤ 65535) (hb0 : b0 < 256) (hb1 : b1 < 256) (hLb : b0 + 256 * b1 = L) (hop : OpIs 77 nm (-2)) (h1 : off + 3 + L ≤ n) (hc : n ≤ c) (hn : n ≤ 1000000000) (hp0 : -1 ≤ pos) (hp : pos ≤ 2147483000)
    (hB : Blk w b t cs)
    (h6 : cs[o + 6]? = some .nilIface) (h2 : cs[o + 2]? = some (.int .i32 off)) (h00 : cs[o]? = some (.slice (some ⟨sb, so, none⟩) n c))
    (h3 : cs[o + 3]? = some (.int .i32 pos)) (h4 : cs[o + 4]? = some oldop) (h5 : cs[o + 5]? = some olddata)
    (hsb : sb ≠ b) (hbyte : w.cell? ⟨sb, so + off, none⟩ = some (.int .u8 77)) (hlen : w.cell? ⟨sb, so + (off + 1), none⟩ = some (.int .u8 b0)) (hlenb : w.cell? ⟨sb, so + (off + 1) + 1, none⟩ = some (.int .u8 b1)) :
    Calls Tryz.prog 41 #[.pointer (some ⟨b, o, none⟩)] w fun e w' => e = .returned (.bool true) ∧
      Blk w' w.heap.size 154 #[.int .u8 77, .string nm, .int .i64 (-2)] ∧
      Blk w' b t (tokSet cs o (pos + 1) (off + (L + 3)) (.pointer (some ⟨w.heap.size, 0, none⟩)) (.slice (some ⟨sb, so + (off + 1) + 2, none⟩) L (c - (off + 1) - 2))) ∧ Fm (M1 b) w w' := by
  have hbl := hB.lt
  have c3 := (hB.cell (o + 3)).trans h3
  have hf := hB.frozen
  have hdone := done_any w b o n c (some ⟨sb, so, none⟩) off (by omega) (by omega) (by omega) ((hB.cell (o + 6)).trans h6) ((hB.cell (o + 2)).trans h2) ((hB.cell o).trans h00)
  go_enter Tryz.func41, Tryz.ntmps41
  go_wp2_with fail
  refine hdone.mono ?_
  clear hdone
  rintro e w1 ⟨rfl, k1, rfl⟩
  go_wp2_with fail
  clear c3 hf
  have hB1 := (hB.drewN k1).set_ (o + 3) (.int .i32 (pos + 1))
  have hF1 : Fm (M1 b) w ((w.drewN k1).setCell ⟨b, o + 3, none⟩ (.int .i32 (pos + 1))) := Fm.setCell (M := M1 b) (p := ⟨b, o + 3, none⟩) ((Fm.refl _ w).drewN k1) (fun _ => rfl) _
  have hbyte1 : ((w.drewN k1).setCell ⟨b, o + 3, none⟩ (.int .i32 (pos + 1))).cell? ⟨sb, so + off, none⟩ = some (.int .u8 77) := by
    rw [World.cell?_setCell_far _ ⟨b, o + 3, none⟩ ⟨sb, so + off, none⟩ _ (Ne.symm hsb)]; exact hbyte
  have hlen1 : ((w.drewN k1).setCell ⟨b, o + 3, none⟩ (.int .i32 (pos + 1))).cell? ⟨sb, so + (off + 1), none⟩ = some (.int .u8 b0) := by
    rw [World.cell?_setCell_far _ ⟨b, o + 3, none⟩ ⟨sb, so + (off + 1), none⟩ _ (Ne.symm hsb)]; exact hlen
  have hlen2 : ((w.drewN k1).setCell ⟨b, o + 3, none⟩ (.int .i32 (pos + 1))).cell? ⟨sb, so + (off + 1) + 1, none⟩ = some (.int .u8 b1) := by
    rw [World.cell?_setCell_far _ ⟨b, o + 3, none⟩ ⟨sb, so + (off + 1) + 1, none⟩ _ (Ne.symm hsb)]; exact hlenb
  have hs1 : ((w.drewN k1).setCell ⟨b, o + 3, none⟩ (.int .i32 (pos + 1))).heap.size = w.heap.size := by simp [World.setCell]
  generalize (w.drewN k1).setCell ⟨b, o + 3, none⟩ (.int .i32 (pos + 1)) = W1 at *
  have c0 := (hB1.cell o).trans (get_set h00 (by omega))
  have c2 := (hB1.cell (o + 2)).trans (get_set h2 (by omega))
  have c4 := (hB1.cell (o + 4)).trans (get_set h4 (by omega))
  have c5 := (hB1.cell (o + 5)).trans (get_set h5 (by omega))
  have hf := hB1.frozen
  have hbl1 : b < W1.heap.size := hB1.lt
  have hi0 : (0 : Int) ≤ (off : Int) := by omega
  have hi1 : (off : Int) < (n : Int) := by omega
  have HS := Lib.hid hs1
  have HB := Lib.hid hB1
  have HF := Lib.hid hF1
  have H0 := Lib.hid hB
  have HL := Lib.hid hlen1
  have HM := Lib.hid hlen2
  clear hs1 hB1 hF1 hB h6 h2 h00 h3 h4 h5 hlen1 hlen hlen2 hlenb
  go_still_tail 10, (by kernel_rfl)
  change wpList _ _ _ _ _ W1.drew
  go_wp2_with (go_at_call 68; refine (hop _).mono ?_; rintro e w' ⟨rfl, rfl⟩)
  obtain ⟨k, hk⟩ : ∃ k : Nat, off + 1 = k := ⟨_, rfl⟩
  have hki : (off : Int) + 1 = (k : Int) := by omega
  have hk1 : (0 : Int) ≤ (k : Int) := by omega
  have hk2 : (k : Int) ≤ (n : Int) := by omega
  have hco : ¬ (c = k) := by omega
  have hnc : (n : Int) ≤ (c : Int) := by omega
  go_quiet (fail)
  rename_i nq
  have hB2 := (HB.out.alloc (.cells #[.int .u8 77, .string nm, .int .i64 (-2)] 154)).drew.drewN nq
  have hN2 := (Blk.new W1 154 #[.int .u8 77, .string nm, .int .i64 (-2)]).drew.drewN nq
  have hF2 := (HF.out.alloc (.cells #[.int .u8 77, .string nm, .int .i64 (-2)] 154)).drew.drewN nq
  have hbk : ((W1.alloc (.cells #[.int .u8 77, .string nm, .int .i64 (-2)] 154)).drew.drewN nq).cell? ⟨sb, so + k, none⟩ = some (.int .u8 b0) := by
    rw [← hk]
    exact (World.cell?_alloc_some W1 ⟨sb, so + (off + 1), none⟩ _ (by rw [HL.out]; rfl)).trans HL.out
  have hbk1 : ((W1.alloc (.cells #[.int .u8 77, .string nm, .int .i64 (-2)] 154)).drew.drewN nq).cell? ⟨sb, so + k + 1, none⟩ = some (.int .u8 b1) := by
    rw [← hk]
    exact (World.cell?_alloc_some W1 ⟨sb, so + (off + 1) + 1, none⟩ _ (by rw [HM.out]; rfl)).trans HM.out
  have hnb : W1.heap.size ≠ b := by omega
  have en : ((W1.alloc (.cells #[.int .u8 77, .string nm, .int .i64 (-2)] 154)).drew.drewN nq).cell? ⟨W1.heap.size, 2, none⟩ = some (.int .i64 (-2)) := by rw [hN2.cell]; rfl
  have e2 : ((W1.alloc (.cells #[.int .u8 77, .string nm, .int .i64 (-2)] 154)).drew.drewN nq).cell? ⟨b, o + 2, none⟩ = some (.int .i32 off) := by rw [hB2.cell, ← HB.out.cell]; exact c2
  have e4 : ((W1.alloc (.cells #[.int .u8 77, .string nm, .int .i64 (-2)] 154)).drew.drewN nq).cell? ⟨b, o + 4, none⟩ = some oldop := by rw [hB2.cell, ← HB.out.cell]; exact c4
  have e5 : ((W1.alloc (.cells #[.int .u8 77, .string nm, .int .i64 (-2)] 154)).drew.drewN nq).cell? ⟨b, o + 5, none⟩ = some olddata := by rw [hB2.cell, ← HB.out.cell]; exact c5
  have ef := hB2.frozen
  have hb2 := hB2.lt
  generalize (W1.alloc (.cells #[.int .u8 77, .string nm, .int .i64 (-2)] 154)).drew.drewN nq = W2 at *
  obtain ⟨m, hm⟩ : ∃ m, n - k = m := ⟨_, rfl⟩
  obtain ⟨c', hc'⟩ : ∃ c', c - k = c' := ⟨_, rfl⟩
  have hm1 : (2 : Int) ≤ (m : Int) := by omega
  have hmc : (m : Int) ≤ (c' : Int) := by omega
  have hc2 : (2 : Int) ≤ (c' : Int) := by omega
  have hm9 : (m : Int) ≤ 1000000000 := by omega
  have hc1 : ¬ (c' = 2) := by omega
  have hLm : (L : Int) ≤ ((m - 2 : Nat) : Int) := by omega
  have hL0' : (0 : Int) ≤ (L : Int) := by omega
  have hL9 : (L : Int) ≤ 65535 := by omega
  have hmc2 : ((m - 2 : Nat) : Int) ≤ ((c' - 2 : Nat) : Int) := by omega
  have HB2 := Lib.hid hB2
  have HN2 := Lib.hid hN2
  have HF2 := Lib.hid hF2
  have hoi : (off : Int) ≤ 1000000000 := by omega
  clear hB2 hN2 hF2 c0 c2 c4 c5 hf hbyte1 hbyte hk1 hk2 hco hnc
  rw [hm, hc']
  go_wp2_with fail
  have hw32 : IntKind.i32.wrap (L : Int) = L := by
    simp only [IntKind.wrap_i32]
    omega
  refine wp_region_held_drew (S := fun _ => True) (by kernel_rfl) trivial (fun hHeld => ?_)
  refine held_take 0 152 (.agg #[]) rfl rfl (by kernel_rfl) (by kernel_rfl) (by kernel_rfl) (fun _ _ _ h => h) (Or.inl ⟨wanted_plain rfl _, fun w _ => by kernel_rfl⟩) trivial ?_
  simp only [List.set_cons_zero, List.set_cons_succ]
  refine held_take 1 153 (.slice (some ⟨sb, so + k, none⟩) m c') rfl rfl (by kernel_rfl) (by kernel_rfl) (by kernel_rfl) (fun _ _ _ h => h) (Or.inl ⟨wanted_plain rfl _, fun w _ => by kernel_rfl⟩) trivial ?_
  simp only [List.set_cons_zero, List.set_cons_succ]
  refine held_take 2 154 (.slice (some ⟨sb, so + k, none⟩) 2 c') rfl rfl (by kernel_rfl) (by kernel_rfl) (by kernel_rfl) (fun _ _ _ h => h) (Or.inl ⟨wanted_plain rfl _, fun w _ => by go_simp⟩) trivial ?_
  simp only [List.set_cons_zero, List.set_cons_succ]
  refine wpAnyH_ready (rs := [3]) (by kernel_rfl) (by simp) ?_
  refine AllReadyH.cons (o := _) rfl (fun K hK => ?_) AllReadyH.nil
  refine step_enter 155 69 #[.agg #[], .slice (some ⟨sb, so + k, none⟩) 2 c'] rfl rfl (by kernel_rfl) ?_
  refine (uint16_any W2.drew sb (so + k) c' b0 b1 hb0 hb1 hbk hbk1).mono ?_
  rintro e W3 ⟨rfl, hb3⟩
  rw [hLb]
  refine ⟨_, rfl, ?_⟩
  refine hK.out _ _ trivial (fun hHeld => ?_)
  clear hK K
  simp only [List.set_cons_zero, List.set_cons_succ]
  refine held_take 4 156 (.int .i32 L) rfl rfl (by kernel_rfl) (by kernel_rfl) (by kernel_rfl) (fun _ _ _ h => h) (Or.inl ⟨wanted_plain rfl _, fun w _ => by go_simp⟩) trivial ?_
  simp only [List.set_cons_zero, List.set_cons_succ]
  refine held_take 5 8 (.int .i32 L) rfl rfl (by kernel_rfl) (by kernel_rfl) (by kernel_rfl) (fun _ _ _ h => h) (Or.inl ⟨wanted_plain rfl _, fun w _ => by kernel_rfl⟩) trivial ?_
  simp only [List.set_cons_zero, List.set_cons_succ]
  refine wpAnyH_done (by kernel_rfl) ?_ _
  have HB3 := Lib.hid (HB2.out.drew.below hb3 HB2.out.lt)
  have HN3 := Lib.hid (HN2.out.drew.below hb3 HN2.out.lt)
  have HF3 := Lib.hid (HF2.out.drew.below hb3)
  have en' : W3.cell? ⟨W1.heap.size, 2, none⟩ = some (.int .i64 (-2)) := by rw [HN3.out.cell]; rfl
  have e2' : W3.cell? ⟨b, o + 2, none⟩ = some (.int .i32 off) := by rw [HB3.out.cell, ← HB2.out.cell]; exact e2
  have e4' : W3.cell? ⟨b, o + 4, none⟩ = some oldop := by rw [HB3.out.cell, ← HB2.out.cell]; exact e4
  have e5' : W3.cell? ⟨b, o + 5, none⟩ = some olddata := by rw [HB3.out.cell, ← HB2.out.cell]; exact e5
  have ef' := HB3.out.frozen
  have hb3' := HB3.out.lt
  clear en e2 e4 e5 ef hb2 hbk hbk1 hb3 HB2 HN2 HF2 hHeld
  go_wp2_with fail
  go_still_tail 16, (by kernel_rfl)
  change wpList _ _ _ _ _ W3.drew
  go_wp2
  go_ret
  rw [← HS.out]
  have eo : (off : Int) + (L + 3) = off + (3 + L) := by omega
  rw [eo, hk]
  subst hc'
  refine ⟨rfl, ?_, ?_, ?_⟩
  · exact (((HN3.out.far (p := ⟨b, o + 2, none⟩) hnb _).far (p := ⟨b, o + 4, none⟩) hnb _).far (p := ⟨b, o + 5, none⟩) hnb _).drew
  · exact (((HB3.out.set_ _ _).set_ _ _).set_ _ _).drew
  · exact (((HF3.out.setCell (p := ⟨b, o + 2, none⟩) (fun _ => rfl) _).setCell (p := ⟨b, o + 4, none⟩) (fun _ => rfl) _).setCell (p := ⟨b, o + 5, none⟩) (fun _ => rfl) _).drew
end Go.Proofs.YtkgihpebghmnbaaGreatDoor

namespace Go.Proofs.YtkgihpebghmnbaaGreatDoor
open Go.RowKit Go.Proofs

set_option maxRecDepth 100000

/-- The tokens that these walks know. -/
def TokS (t : Tok) : Prop := (t.data = [] ∧ (t.op = 0 ∨ 78 < t.op) ∧ t.op ≤ 255 ∧ ∃ nm, OpIs t.op nm 1) ∨ (1 ≤ t.op ∧ t.op ≤ 75 ∧ t.data.length = t.op) ∨
  (t.op = 76 ∧ 1 ≤ t.data.length ∧ t.data.length ≤ 255) ∨ (t.op = 77 ∧ 1 ≤ t.data.length ∧ t.data.length ≤ 65535)

/-- A tokenizer's cells. -/
structure TokC (cs : Array Value) (o : Nat) (sl : Value) (off : Nat) (pos : Int) : Prop where
  c0 : cs[o]? = some sl
  c1 : ∃ v, cs[o + 1]? = some v
  c2 : cs[o + 2]? = some (.int .i32 off)
  c3 : cs[o + 3]? = some (.int .i32 pos)
  c4 : ∃ v, cs[o + 4]? = some v
  c5 : ∃ v, cs[o + 5]? = some v
  c6 : cs[o + 6]? = some .nilIface

theorem TokC.next {cs : Array Value} {o off : Nat} {sl : Value} {pos : Int} (h : TokC cs o sl off pos) (off' : Nat) (p : Int) (op d : Value) : TokC (tokSet cs o p off' op d) o sl off' p := by
  obtain ⟨c0, ⟨v1, c1⟩, c2, c3, ⟨v4, c4⟩, ⟨v5, c5⟩, c6⟩ := h
  unfold tokSet
  exact { c0 := get_set (get_set (get_set (get_set c0 (by omega)) (by omega)) (by omega)) (by omega)
          c1 := ⟨v1, get_set (get_set (get_set (get_set c1 (by omega)) (by omega)) (by omega)) (by omega)⟩
          c2 := get_set (get_set (get_here (get_set c2 (by omega))) (by omega)) (by omega)
          c3 := get_set (get_set (get_set (get_here c3) (by omega)) (by omega)) (by omega)
          c4 := ⟨_, get_set (get_here (get_set (get_set c4 (by omega)) (by omega))) (by omega)⟩
          c5 := ⟨_, get_here (get_set (get_set (get_set c5 (by omega)) (by omega)) (by omega))⟩
          c6 := get_set (get_set (get_set (get_set c6 (by omega)) (by omega)) (by omega)) (by omega) }

theorem drop_enc {bs rest : List UInt8} {off : Nat} {t : Tok} (h : bs.drop off = t.enc ++ rest) (j : Nat) (u : UInt8) (hj : t.enc[j]? = some u) : bs[off + j]? = some u := by
  rw [← List.getElem?_drop, h, List.getElem?_append_left (List.getElem?_eq_some_iff.1 hj).1]
  exact hj

/-- Next, at a token, what it hands over told ahead. -/
theorem next_tok2 (w : World) (b o tt n c off : Nat) (A : Option Addr) (cs : Array Value) (pos : Int) (t : Tok) (bs rest : List UInt8)
    (hB : Blk w b tt cs) (hC : TokC cs o (.slice A n c) off pos) (hrd : Rd 0 w (.slice A n c) bs) (hne : ∀ ds t' fr, w.heap[b]? = some (.cells ds t' fr) → t' ∈ Sx)
    (hcode : bs.drop off = t.enc ++ rest) (ht : TokS t) (hn : n ≤ 100000) (hp0 : -1 ≤ pos) (hp : pos ≤ 200000) :
    ∃ nm dA dc, Rd 0 w (.slice dA t.data.length dc) t.data ∧ ∀ m, Calls Tryz.prog 41 #[.pointer (some ⟨b, o, none⟩)] (w.drewN m) fun e w' => e = .returned (.bool true) ∧
      (∃ ln : Int, Blk w' w.heap.size 154 #[.int .u8 t.op, .string nm, .int .i64 ln]) ∧
      Blk w' b tt (tokSet cs o (pos + 1) (off + t.enc.length : Nat) (.pointer (some ⟨w.heap.size, 0, none⟩)) (.slice dA t.data.length dc)) ∧ Fm (M1 b) w w' := by
  obtain ⟨hl, hnc⟩ := hrd.len
  have hep := t.enc_pos
  have hlen : off + t.enc.length ≤ n := by
    have := congrArg List.length hcode
    simp at this
    omega
  obtain ⟨sb, so, rfl, -⟩ := hrd.cell (j := 0) (by omega)
  have hsb : sb ≠ b := by
    rintro rfl
    obtain ⟨A', c', e, -, h⟩ := hrd
    injection e with e1 e2 e3
    obtain ⟨b', o', ds, t', fr, e', hh, hs, -⟩ := h (by omega)
    rw [← e1] at e'
    injection e' with e'
    injection e' with e2 e3
    subst e2
    rcases hs with hs | hs
    · omega
    · exact hs (hne _ _ _ hh)
  obtain ⟨b0, o0, e0, hbyte⟩ := hrd.cell (j := off) (by omega)
  injection e0 with e0
  injection e0 with e1 e2
  subst e1; subst e2
  have hne2 : (⟨sb, so, none⟩ : Addr) = ⟨sb, so, none⟩ := rfl
  rcases ht with ⟨hd, hop, hop2, nm, hnm⟩ | ⟨h1, h2, h3⟩ | ⟨h1, h2, h3⟩ | ⟨h1, h2, h3⟩
  · have henc : t.enc = [UInt8.ofNat t.op] := by
      unfold Tok.enc
      rcases hop with h | h
      · rw [if_pos h, h]; rfl
      · rw [if_neg (by omega), if_neg (by omega), if_neg (by omega), if_neg (by omega)]
    have hu : bs.getD off 0 = UInt8.ofNat t.op := by
      have := drop_enc hcode 0 (UInt8.ofNat t.op) (by rw [henc]; rfl)
      simpa [List.getD_eq_getElem?_getD] using congrArg (·.getD 0) this
    rw [hu] at hbyte
    have hv : (UInt8.ofNat t.op).toNat = t.op := by simp; omega
    rw [hv] at hbyte
    obtain ⟨v4, c4⟩ := hC.c4
    obtain ⟨v5, c5⟩ := hC.c5
    refine ⟨nm, none, 0, by rw [hd]; exact Rd.nil _ _ _ _, fun m => ?_⟩
    refine (next_one (w.drewN m) b o tt n c cs off pos v4 v5 t.op nm sb so hnm (by omega) (by omega) hp0 (by omega) hB hC.c6 hC.c2 hC.c0 hC.c3 c4 c5 hsb hbyte).mono ?_
    rintro e w' ⟨rfl, k1, k2, k3⟩
    rw [henc, hd]
    exact ⟨rfl, ⟨_, k1⟩, k2, ((Fm.refl _ w).drewN m).trans k3⟩
  · have henc : t.enc = UInt8.ofNat t.op :: t.data := by
      unfold Tok.enc
      rw [if_neg (by omega), if_pos (by omega)]
    have hle : t.enc.length = t.op + 1 := by rw [henc]; simp [h3]
    have hu : bs.getD off 0 = UInt8.ofNat t.op := by
      have := drop_enc hcode 0 (UInt8.ofNat t.op) (by rw [henc]; rfl)
      simpa [List.getD_eq_getElem?_getD] using congrArg (·.getD 0) this
    rw [hu] at hbyte
    have hv : (UInt8.ofNat t.op).toNat = t.op := by simp; omega
    rw [hv] at hbyte
    obtain ⟨nm, hnm⟩ := op_data t.op h1 h2
    obtain ⟨v4, c4⟩ := hC.c4
    obtain ⟨v5, c5⟩ := hC.c5
    have hpart := hrd.part (off + 1) t.op (c - off - 1) (by omega) (by omega)
    have hdd : (bs.drop (off + 1)).take t.op = t.data := by
      have : bs.drop (off + 1) = t.data ++ rest := by
        rw [← List.drop_drop, hcode, henc]; rfl
      rw [this, ← h3]; simp
    rw [hdd, ← Nat.add_assoc] at hpart
    refine ⟨nm, some ⟨sb, so + off + 1, none⟩, c - off - 1, by rw [h3]; exact hpart, fun m => ?_⟩
    refine (next_data (w.drewN m) b o tt n c cs off pos v4 v5 t.op nm sb so t.op h1 h2 hnm (by omega) hnc (by omega) hp0 (by omega) hB hC.c6 hC.c2 hC.c0 hC.c3 c4 c5 hsb hbyte).mono ?_
    rintro e w' ⟨rfl, k1, k2, k3⟩
    rw [hle, h3]
    exact ⟨rfl, ⟨_, k1⟩, k2, ((Fm.refl _ w).drewN m).trans k3⟩
  · have henc : t.enc = 76 :: UInt8.ofNat t.data.length :: t.data := by
      unfold Tok.enc
      rw [if_neg (by omega), if_neg (by omega), if_pos h1]
    have hle : t.enc.length = t.data.length + 2 := by rw [henc]; simp
    have hu : bs.getD off 0 = 76 := by
      have := drop_enc hcode 0 76 (by rw [henc]; rfl)
      simpa [List.getD_eq_getElem?_getD] using congrArg (·.getD 0) this
    have hu1 : bs.getD (off + 1) 0 = UInt8.ofNat t.data.length := by
      have := drop_enc hcode 1 (UInt8.ofNat t.data.length) (by rw [henc]; rfl)
      simpa [List.getD_eq_getElem?_getD] using congrArg (·.getD 0) this
    obtain ⟨b1, o1, e1, hbyte1⟩ := hrd.cell (j := off + 1) (by omega)
    injection e1 with e1
    injection e1 with e1 e2
    subst e1; subst e2
    rw [hu] at hbyte
    rw [hu1, show (UInt8.ofNat t.data.length).toNat = t.data.length by simp; omega] at hbyte1
    obtain ⟨v4, c4⟩ := hC.c4
    obtain ⟨v5, c5⟩ := hC.c5
    have hpart := hrd.part (off + 1 + 1) t.data.length (c - (off + 1) - 1) (by omega) (by omega)
    have hdd : (bs.drop (off + 1 + 1)).take t.data.length = t.data := by
      have : bs.drop (off + 1 + 1) = t.data ++ rest := by
        rw [← List.drop_drop, ← List.drop_drop, hcode, henc]; rfl
      rw [this]; simp
    rw [hdd, ← Nat.add_assoc] at hpart
    obtain ⟨nm, hnm⟩ : ∃ nm, OpIs 76 nm (-1) := ⟨_, op76⟩
    refine ⟨nm, some ⟨sb, so + (off + 1) + 1, none⟩, c - (off + 1) - 1, hpart, fun m => ?_⟩
    refine (next_pd1 (w.drewN m) b o tt n c cs off pos v4 v5 nm sb so t.data.length h2 h3 hnm (by omega) hnc (by omega) hp0 (by omega) hB hC.c6 hC.c2 hC.c0 hC.c3 c4 c5 hsb hbyte hbyte1).mono ?_
    rintro e w' ⟨rfl, k1, k2, k3⟩
    rw [hle, h1]
    exact ⟨rfl, ⟨_, k1⟩, k2, ((Fm.refl _ w).drewN m).trans k3⟩
  · have henc : t.enc = 77 :: UInt8.ofNat (t.data.length % 256) :: UInt8.ofNat (t.data.length / 256) :: t.data := by
      unfold Tok.enc
      rw [if_neg (by omega), if_neg (by omega), if_neg (by omega), if_pos h1]
    have hle : t.enc.length = t.data.length + 3 := by rw [henc]; simp
    have hu : bs.getD off 0 = 77 := by
      have := drop_enc hcode 0 77 (by rw [henc]; rfl)
      simpa [List.getD_eq_getElem?_getD] using congrArg (·.getD 0) this
    have hu1 : bs.getD (off + 1) 0 = UInt8.ofNat (t.data.length % 256) := by
      have := drop_enc hcode 1 (UInt8.ofNat (t.data.length % 256)) (by rw [henc]; rfl)
      simpa [List.getD_eq_getElem?_getD] using congrArg (·.getD 0) this
    have hu2 : bs.getD (off + 1 + 1) 0 = UInt8.ofNat (t.data.length / 256) := by
      have := drop_enc hcode 2 (UInt8.ofNat (t.data.length / 256)) (by rw [henc]; rfl)
      simpa [List.getD_eq_getElem?_getD] using congrArg (·.getD 0) this
    obtain ⟨b1, o1, e1, hbyte1⟩ := hrd.cell (j := off + 1) (by omega)
    injection e1 with e1
    injection e1 with e1 e2
    subst e1; subst e2
    obtain ⟨b2, o2, e2, hbyte2⟩ := hrd.cell (j := off + 1 + 1) (by omega)
    injection e2 with e2
    injection e2 with e1 e2
    subst e1; subst e2
    rw [hu] at hbyte
    rw [hu1, show (UInt8.ofNat (t.data.length % 256)).toNat = t.data.length % 256 by simp] at hbyte1
    rw [hu2, show (UInt8.ofNat (t.data.length / 256)).toNat = t.data.length / 256 by simp; omega, ← Nat.add_assoc] at hbyte2
    obtain ⟨v4, c4⟩ := hC.c4
    obtain ⟨v5, c5⟩ := hC.c5
    have hpart := hrd.part (off + 1 + 2) t.data.length (c - (off + 1) - 2) (by omega) (by omega)
    have hdd : (bs.drop (off + 1 + 2)).take t.data.length = t.data := by
      have : bs.drop (off + 1 + 2) = t.data ++ rest := by
        rw [← List.drop_drop, ← List.drop_drop, hcode, henc]; rfl
      rw [this]; simp
    rw [hdd, ← Nat.add_assoc] at hpart
    obtain ⟨nm, hnm⟩ : ∃ nm, OpIs 77 nm (-2) := ⟨_, op77⟩
    refine ⟨nm, some ⟨sb, so + (off + 1) + 2, none⟩, c - (off + 1) - 2, hpart, fun m => ?_⟩
    refine (next_pd2 (w.drewN m) b o tt n c cs off pos v4 v5 nm sb so t.data.length (t.data.length % 256) (t.data.length / 256) h2 h3 (by omega) (by omega) (by omega) hnm (by omega) hnc (by omega) hp0 (by omega) hB hC.c6 hC.c2 hC.c0 hC.c3 c4 c5 hsb hbyte hbyte1 hbyte2).mono ?_
    rintro e w' ⟨rfl, k1, k2, k3⟩
    rw [hle, h1]
    exact ⟨rfl, ⟨_, k1⟩, k2, ((Fm.refl _ w).drewN m).trans k3⟩

/-- Next, at a token. -/
theorem next_tok (w : World) (b o tt n c off : Nat) (A : Option Addr) (cs : Array Value) (pos : Int) (t : Tok) (bs rest : List UInt8)
    (hB : Blk w b tt cs) (hC : TokC cs o (.slice A n c) off pos) (hrd : Rd 0 w (.slice A n c) bs) (hne : ∀ ds t' fr, w.heap[b]? = some (.cells ds t' fr) → t' ∈ Sx)
    (hcode : bs.drop off = t.enc ++ rest) (ht : TokS t) (hn : n ≤ 100000) (hp0 : -1 ≤ pos) (hp : pos ≤ 200000) :
    Calls Tryz.prog 41 #[.pointer (some ⟨b, o, none⟩)] w fun e w' => e = .returned (.bool true) ∧
      ∃ nm, (∃ ln : Int, Blk w' w.heap.size 154 #[.int .u8 t.op, .string nm, .int .i64 ln]) ∧
      ∃ dA dc, Rd 0 w (.slice dA t.data.length dc) t.data ∧ Blk w' b tt (tokSet cs o (pos + 1) (off + t.enc.length : Nat) (.pointer (some ⟨w.heap.size, 0, none⟩)) (.slice dA t.data.length dc)) ∧ Fm (M1 b) w w' := by
  obtain ⟨nm, dA, dc, hr, h⟩ := next_tok2 w b o tt n c off A cs pos t bs rest hB hC hrd hne hcode ht hn hp0 hp
  refine (h 0).mono ?_
  rintro e w' ⟨rfl, ⟨ln, k1⟩, k2, k3⟩
  exact ⟨rfl, nm, ⟨ln, k1⟩, dA, dc, hr, k2, k3⟩

/-- Next, at the end. -/
theorem next_end (w : World) (b o n c : Nat) (A : Option Addr) (cs : Array Value) (tt : Nat) (pos : Int) (hB : Blk w b tt cs) (hC : TokC cs o (.slice A n c) n pos) (hn : n ≤ 100000) :
    Calls Tryz.prog 41 #[.pointer (some ⟨b, o, none⟩)] w fun e w' => e = .returned (.bool false) ∧ ∃ k, w' = w.drewN k := by
  have H := Lib.hid (done_any w b o n c A n (by omega) (by omega) (by omega) ((hB.cell _).trans hC.c6) ((hB.cell _).trans hC.c2) ((hB.cell _).trans hC.c0))
  clear hB hC
  have hd : decide ((n : Int) ≤ (n : Int)) = true := by simp
  go_enter Tryz.func41, Tryz.ntmps41
  go_wp2_with fail
  refine H.out.mono ?_
  rintro e w1 ⟨rfl, k1, rfl⟩
  rw [hd]
  go_wp2
  go_ret
  exact ⟨rfl, k1, rfl⟩

/-- A new tokenizer. -/
theorem mkTok_any (w : World) (A : Option Addr) (n c : Nat) :
    Calls Tryz.prog 40 #[.int .u16 0, .slice A n c] w fun e w' =>
      e = .returned (.agg #[.slice A n c, .int .u16 0, .int .i32 0, .int .i32 (-1), .pointer none, .slice none 0 0, .nilIface]) ∧ Below w.heap.size w w' := by
  go_enter Tryz.func40, Tryz.ntmps40
  go_wp2
  exact bodyPost_ret (v := .agg #[.slice A n c, .int .u16 0, .int .i32 0, .int .i32 (-1), .pointer none, .slice none 0 0, .nilIface]) (by simp [results, Tryz.results40, go_sem]) rfl ⟨rfl, (Below.refl _ _).alloc (Nat.le_refl _) _⟩

theorem Below.fm {B : Nat} {w w1 w2 : World} {M : Nat → Prop} (h : Below B w w1) (k : Fm M w1 w2) (hB : B ≤ w1.heap.size) (hM : ∀ j, j < B → ¬ M j) : Below B w w2 :=
  ⟨k.os.trans h.os, k.tape.trans h.tape, k.output.trans h.output, Nat.le_trans h.size k.size, fun j hj => (k.block j (by omega) (hM j hj)).trans (h.block j hj)⟩

/-- A script that is whole. -/
theorem parses (w : World) (n c : Nat) (A : Option Addr) (ts : List Tok) (hrd : Rd 0 w (.slice A n c) (code ts)) (hts : ∀ t ∈ ts, TokS t) (hn : n ≤ 100000) :
    Calls Tryz.prog 29 #[.int .u16 0, .slice A n c] w fun e w' => e = .returned .nilIface ∧ Below w.heap.size w w' := by
  have HR := Lib.hid hrd
  have HT := Lib.hid hts
  have HL := Lib.hid hrd.len
  clear hrd hts
  go_enter Tryz.func29, Tryz.ntmps29
  go_wp2_with fail
  refine (mkTok_any w A n c).mono ?_
  rintro e w1 ⟨rfl, hb1⟩
  have HB1 := Lib.hid hb1
  clear hb1
  go_wp2_with fail
  have hblk := Blk.new w1 104 #[.slice A n c, .int .u16 0, .int .i32 0, .int .i32 (-1), .pointer none, .slice none 0 0, .nilIface]
  have hbel : Below w.heap.size w (w1.alloc (.cells #[.slice A n c, .int .u16 0, .int .i32 0, .int .i32 (-1), .pointer none, .slice none 0 0, .nilIface] 104)) := HB1.out.alloc HB1.out.size _
  have hT : w.heap.size ≤ w1.heap.size := HB1.out.size
  generalize w1.heap.size = T at *
  have HI : Hid (∃ done rest cs, ts = done ++ rest ∧ ts.length = rest.length ∧ Blk (w1.alloc (.cells #[.slice A n c, .int .u16 0, .int .i32 0, .int .i32 (-1), .pointer none, .slice none 0 0, .nilIface] 104)) T 104 cs ∧
      TokC cs 0 (.slice A n c) (code done).length ((done.length : Int) - 1) ∧ Below w.heap.size w (w1.alloc (.cells #[.slice A n c, .int .u16 0, .int .i32 0, .int .i32 (-1), .pointer none, .slice none 0 0, .nilIface] 104))) :=
    ⟨[], ts, _, rfl, rfl, hblk, ⟨rfl, ⟨_, rfl⟩, rfl, rfl, ⟨_, rfl⟩, ⟨_, rfl⟩, rfl⟩, hbel⟩
  clear hblk hbel
  generalize w1.alloc (.cells #[.slice A n c, .int .u16 0, .int .i32 0, .int .i32 (-1), .pointer none, .slice none 0 0, .nilIface] 104) = w2 at *
  go_loopg [9] (ts.length + 1) (fun k s9 wx => ∃ done rest cs, ts = done ++ rest ∧ k = rest.length + 1 ∧ Blk wx T 104 cs ∧
      TokC cs 0 (.slice A n c) (code done).length ((done.length : Int) - 1) ∧ Below w.heap.size w wx)
  case atStart => 
    obtain ⟨done, rest, cs, h1, h2, h3⟩ := HI.out
    exact ⟨done, rest, cs, h1, by rw [h2], h3⟩
  case round =>
    obtain ⟨done, rest, cs, hts, rfl, hblk, hC, hbel⟩ := hrel
    have hrd' : Rd 0 wr (.slice A n c) (code ts) := HR.out.below hbel
    have hcl : (code ts).length = n := HL.out.1.symm
    have hdl : done.length ≤ n := by
      have h0 : ∀ ds : List Tok, ds.length ≤ (code ds).length := by
        intro ds
        induction ds with
        | nil => simp
        | cons d ds ih => have := d.enc_pos; simp only [code, List.length_cons, List.length_append]; omega
      have h1 := h0 done
      have h2 := congrArg List.length (code_append done rest)
      rw [← hts] at h2
      simp at h2
      omega
    cases rest with
    | nil =>
      have hoff : (code done).length = n := by rw [← hcl, hts]; simp
      rw [hoff] at hC
      have HN := Lib.hid (next_end wr T 0 n c A cs _ _ hblk hC hn)
      have h6 := (hblk.cell 6).trans hC.c6
      have HX := Lib.hid hbel
      clear hblk hC hbel hrd' HI
      go_wp2_with fail
      refine HN.out.mono ?_
      rintro e w3 ⟨rfl, k3, rfl⟩
      go_wp2_with fail
      refine (err_any (wr.drewN k3) T 0 _ h6 (.inl rfl)).mono ?_
      rintro e w4 ⟨rfl, rfl⟩
      have HX' := HX.out
      go_wp2
      go_ret
      exact ⟨rfl, ⟨HX'.os, HX'.tape, HX'.output, HX'.size, HX'.block⟩⟩
    | cons t rest =>
      have hdrop : (code ts).drop (code done).length = t.enc ++ code rest := by
        rw [hts, code_append]; simp [code]
      have HN := Lib.hid (next_tok wr T 0 _ n c (code done).length A cs _ t (code ts) (code rest) hblk hC hrd' (fun ds t' fr hh => by
        unfold Blk at hblk; rw [hblk] at hh; injection hh with hh; injection hh with _ e; subst e; simp [Sx]) hdrop (HT.out t (by rw [hts]; simp)) hn (by omega) (by omega))
      have HX := Lib.hid hbel
      have HC := Lib.hid hC
      clear hblk hC hbel hrd' HI
      go_wp2_with fail
      refine HN.out.mono ?_
      rintro e w3 ⟨rfl, nm, -, dA, dc, -, hblk3, hf3⟩
      have hblk3 := Lib.hid hblk3
      have hf3 := Lib.hid (Below.fm HX.out hf3 HX.out.size (fun j hj hm => by unfold M1 at hm; omega))
      go_wp2_with fail
      go_roundg (rest.length + 1)
      case measure => simp
      case rel =>
        refine ⟨done ++ [t], rest, _, by rw [hts]; simp, rfl, hblk3.out, ?_, hf3.out⟩
        have hc := HC.out.next ((code done).length + t.enc.length) ((done.length : Int) - 1 + 1) (.pointer (some ⟨wr.heap.size, 0, none⟩)) (.slice dA t.data.length dc)
        have e1 : (code (done ++ [t])).length = (code done).length + t.enc.length := by rw [code_append]; simp [code]
        have e2 : (((done ++ [t]).length : Nat) : Int) - 1 = (done.length : Int) - 1 + 1 := by simp
        rw [e1, e2]
        exact hc

end Go.Proofs.YtkgihpebghmnbaaGreatDoor
