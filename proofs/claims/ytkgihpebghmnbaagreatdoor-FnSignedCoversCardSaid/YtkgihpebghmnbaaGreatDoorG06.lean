/- Scripts as plain lists of bytes: tokens, the shortest push of some bytes, numbers. No program in sight. The tokenizer's small methods, walked. The machine's state, and what its small opcodes leave. DROP, the bytes of a number, and the check of a lock. -/
import Derived.Test.YtkgihpebghmnbaaGreatDoorG02
import Derived.Test.YtkgihpebghmnbaaGreatDoorOps
import Derived.Test.YtkgihpebghmnbaaGreatDoorProg
import Derived.WalkKit
import Derived.WalkSpells
import Derived.WalkLawsBesides
import Derived.BigQuiet
import Derived.Deep.QuietTactic
import Derived.Outline
import Derived.StillTailTactics
import Derived.Lib.Hide
import Derived.Deep.RegionHeld
import Derived.Test.YtkgihpebghmnbaaGreatDoorG03
import Derived.Test.YtkgihpebghmnbaaGreatDoorRuns
namespace Go.Proofs.YtkgihpebghmnbaaGreatDoor

/-- A token of a script: its opcode, and what it carries. -/
structure Tok where
  op : Nat
  data : List UInt8

def Tok.enc (t : Tok) : List UInt8 :=
  if t.op = 0 then [0]
  else if t.op < 76 then UInt8.ofNat t.op :: t.data
  else if t.op = 76 then 76 :: UInt8.ofNat t.data.length :: t.data
  else if t.op = 77 then 77 :: UInt8.ofNat (t.data.length % 256) :: UInt8.ofNat (t.data.length / 256) :: t.data
  else [UInt8.ofNat t.op]

/-- The tokens that the machine's walks take. -/
def Tok.ok (t : Tok) : Prop :=
  (t.op = 0 ∧ t.data = []) ∨ (1 ≤ t.op ∧ t.op ≤ 75 ∧ t.data.length = t.op) ∨ (t.op = 76 ∧ t.data.length ≤ 255) ∨ (t.op = 77 ∧ t.data.length ≤ 65535) ∨ (79 ≤ t.op ∧ t.op ≤ 255 ∧ t.data = [])

/-- A script of tokens. -/
def code : List Tok → List UInt8
  | [] => []
  | t :: ts => t.enc ++ code ts

theorem code_append (a b : List Tok) : code (a ++ b) = code a ++ code b := by
  induction a with
  | nil => rfl
  | cons t ts ih => simp [code, ih]

theorem Tok.enc_pos (t : Tok) : 0 < t.enc.length := by
  unfold Tok.enc
  split
  · simp
  · split
    · simp
    · split
      · simp
      · split <;> simp

theorem code_pos (ts : List Tok) (h : ts ≠ []) : 0 < (code ts).length := by
  cases ts with
  | nil => exact absurd rfl h
  | cons t ts => have := t.enc_pos; simp [code]; omega

/-- The shortest token that pushes some bytes. -/
def pushT (d : List UInt8) : Tok :=
  if d.length = 0 then ⟨0, []⟩
  else if d.length = 1 ∧ 1 ≤ (d.getD 0 0).toNat ∧ (d.getD 0 0).toNat ≤ 16 then ⟨80 + (d.getD 0 0).toNat, []⟩
  else if d.length = 1 ∧ (d.getD 0 0).toNat = 129 then ⟨79, []⟩
  else if d.length ≤ 75 then ⟨d.length, d⟩
  else if d.length ≤ 255 then ⟨76, d⟩
  else ⟨77, d⟩

/-- What a token that pushes leaves on the stack. -/
def Tok.pushed (t : Tok) : List UInt8 :=
  if t.op = 0 then []
  else if t.op < 79 then t.data
  else if t.op = 79 then [129]
  else [UInt8.ofNat (t.op - 80)]

theorem pushT_ok (d : List UInt8) (h : d.length ≤ 65535) : (pushT d).ok := by
  unfold pushT Tok.ok
  have hb := (d.getD 0 0).toNat_lt
  split
  · simp
  · split
    · right; right; right; right; simp only [and_true]; omega
    · split
      · right; right; right; right; simp
      · split
        · right; left; simp only [and_true]; omega
        · split
          · right; right; left; simp only [true_and]; omega
          · right; right; right; left; simp only [true_and]; omega

theorem one_byte {d : List UInt8} (h : d.length = 1) : d = [d.getD 0 0] := by
  match d, h with
  | [x], _ => rfl

theorem pushT_pushed (d : List UInt8) : (pushT d).pushed = d := by
  unfold pushT
  split
  · rename_i h
    simp [Tok.pushed, List.eq_nil_of_length_eq_zero h]
  · split
    · rename_i h
      obtain ⟨h1, h2, h3⟩ := h
      simp only [Tok.pushed]
      rw [if_neg (by omega), if_neg (by omega), if_neg (by omega)]
      rw [show 80 + (d.getD 0 0).toNat - 80 = (d.getD 0 0).toNat from by omega]
      conv => rhs; rw [one_byte h1]
      simp
    · split
      · rename_i h
        obtain ⟨h1, h2⟩ := h
        simp only [Tok.pushed]
        conv => rhs; rw [one_byte h1]
        rw [if_neg (by decide), if_neg (by decide), if_pos trivial]
        have : d.getD 0 0 = 129 := by
          apply UInt8.toNat_inj.1
          rw [h2]; rfl
        rw [this]
      · split
        · simp only [Tok.pushed]
          rw [if_neg (by omega), if_pos (by omega)]
        · split
          · simp [Tok.pushed]
          · simp [Tok.pushed]

/-- The least byte first. -/
def leB (n : Nat) : List UInt8 := if h : n = 0 then [] else UInt8.ofNat (n % 256) :: leB (n / 256)
termination_by n
decreasing_by omega

/-- A number, none below 0, as the bytes of a script's number. -/
def numB (n : Nat) : List UInt8 := if 128 ≤ ((leB n).getLastD 0).toNat then leB n ++ [0] else leB n

/-- What bytes come to, the least first. -/
def leV : List UInt8 → Nat
  | [] => 0
  | b :: bs => b.toNat + 256 * leV bs

theorem leV_leB (n : Nat) : leV (leB n) = n := by
  induction n using Nat.strongRecOn with
  | _ n ih =>
    unfold leB
    split
    · rename_i h; subst h; rfl
    · rename_i h
      simp only [leV]
      rw [ih (n / 256) (by omega)]
      simp [UInt8.toNat_ofNat']
      omega

theorem leV_append_zero (bs : List UInt8) : leV (bs ++ [0]) = leV bs := by
  induction bs with
  | nil => rfl
  | cons b bs ih => simp [leV, ih]

theorem leV_numB (n : Nat) : leV (numB n) = n := by
  unfold numB
  split
  · rw [leV_append_zero, leV_leB]
  · exact leV_leB n

theorem leB_length (k n : Nat) (h : n < 256 ^ k) : (leB n).length ≤ k := by
  induction k generalizing n with
  | zero => unfold leB; simp at h; simp [h]
  | succ k ih =>
    unfold leB
    split
    · simp
    · simp only [List.length_cons]
      have := ih (n / 256) (by rw [Nat.pow_succ] at h; omega)
      omega
end Go.Proofs.YtkgihpebghmnbaaGreatDoor

namespace Go.Proofs.YtkgihpebghmnbaaGreatDoor
open Go.RowKit Go.Proofs

set_option maxRecDepth 100000
/-- Done, of a script with no fault: whether the place is at the end. -/
theorem done_any (w : World) (b o n c : Nat) (A : Option Addr) (off : Int) (_h0 : 0 ≤ off) (_h1 : off ≤ 2147483647) (hn : n ≤ 2147483647)
    (h6 : w.cell? ⟨b, o + 6, none⟩ = some .nilIface) (h2 : w.cell? ⟨b, o + 2, none⟩ = some (.int .i32 off)) (h00 : w.cell? ⟨b, o, none⟩ = some (.slice A n c)) :
    Calls Tryz.prog 59 #[.pointer (some ⟨b, o, none⟩)] w fun e w' => e = .returned (.bool (decide ((n : Int) ≤ off))) ∧ ∃ k, w' = w.drewN k := by
  go_enter Tryz.func59, Tryz.ntmps59
  go_wp2
  go_quiet (fail)
  go_wp2
  go_ret
  exact ⟨rfl, _, rfl⟩

theorem err_any (w : World) (b o : Nat) (v : Value) (h6 : w.cell? ⟨b, o + 6, none⟩ = some v) (hv : v = .nilIface ∨ ∃ t x, v = .iface t x) :
    Calls Tryz.prog 42 #[.pointer (some ⟨b, o, none⟩)] w fun e w' => e = .returned v ∧ w = w' := by
  rcases hv with rfl | ⟨t, x, rfl⟩
  · go_enter Tryz.func42, Tryz.ntmps42
    go_wp2
    go_ret
    exact ⟨rfl, rfl⟩
  · go_enter Tryz.func42, Tryz.ntmps42
    go_wp2
    go_ret
    exact ⟨rfl, rfl⟩

/-- The tokenizer's cells behind a token. -/
def tokSet (cs : Array Value) (o : Nat) (pos : Int) (off : Int) (op data : Value) : Array Value :=
  (((cs.setIfInBounds (o + 3) (.int .i32 pos)).setIfInBounds (o + 2) (.int .i32 off)).setIfInBounds (o + 4) op).setIfInBounds (o + 5) data

theorem get_set {cs : Array Value} {i j : Nat} {v x : Value} (h : cs[i]? = some v) (hne : i ≠ j) : (cs.setIfInBounds j x)[i]? = some v := by
  rw [Array.getElem?_setIfInBounds, if_neg (Ne.symm hne)]
  exact h
theorem get_here {cs : Array Value} {i : Nat} {v x : Value} (h : cs[i]? = some v) : (cs.setIfInBounds i x)[i]? = some x := by
  have := (Array.getElem?_eq_some_iff.1 h).1
  rw [Array.getElem?_setIfInBounds, if_pos rfl, if_pos this]

/-- Next at an opcode that carries nothing. -/
theorem next_one (w : World) (b o t n c : Nat) (cs : Array Value) (off : Nat) (pos : Int) (oldop olddata : Value) (opv : Nat) (nm : ByteArray) (sb so : Nat)
    (hop : OpIs opv nm 1) (h1 : off < n) (hn : n ≤ 2147483647) (hp0 : -1 ≤ pos) (hp : pos ≤ 2147483000)
    (hB : Blk w b t cs)
    (h6 : cs[o + 6]? = some .nilIface) (h2 : cs[o + 2]? = some (.int .i32 off)) (h00 : cs[o]? = some (.slice (some ⟨sb, so, none⟩) n c))
    (h3 : cs[o + 3]? = some (.int .i32 pos)) (h4 : cs[o + 4]? = some oldop) (h5 : cs[o + 5]? = some olddata)
    (hsb : sb ≠ b) (hbyte : w.cell? ⟨sb, so + off, none⟩ = some (.int .u8 opv)) :
    Calls Tryz.prog 41 #[.pointer (some ⟨b, o, none⟩)] w fun e w' => e = .returned (.bool true) ∧
      Blk w' w.heap.size 154 #[.int .u8 opv, .string nm, .int .i64 1] ∧
      Blk w' b t (tokSet cs o (pos + 1) (off + 1) (.pointer (some ⟨w.heap.size, 0, none⟩)) (.slice none 0 0)) ∧ Fm (M1 b) w w' := by
  have hbl := hB.lt
  have c3 := (hB.cell (o + 3)).trans h3
  have hf := hB.frozen
  have hdone := done_any w b o n c (some ⟨sb, so, none⟩) off (by omega) (by omega) hn ((hB.cell (o + 6)).trans h6) ((hB.cell (o + 2)).trans h2) ((hB.cell o).trans h00)
  go_enter Tryz.func41, Tryz.ntmps41
  go_wp2_with fail
  refine hdone.mono ?_
  clear hdone
  rintro e w1 ⟨rfl, k1, rfl⟩
  go_wp2_with fail
  clear c3 hf
  have hB1 := (hB.drewN k1).set_ (o + 3) (.int .i32 (pos + 1))
  have hF1 : Fm (M1 b) w ((w.drewN k1).setCell ⟨b, o + 3, none⟩ (.int .i32 (pos + 1))) := Fm.setCell (M := M1 b) (p := ⟨b, o + 3, none⟩) ((Fm.refl _ w).drewN k1) (fun _ => rfl) _
  have hbyte1 : ((w.drewN k1).setCell ⟨b, o + 3, none⟩ (.int .i32 (pos + 1))).cell? ⟨sb, so + off, none⟩ = some (.int .u8 opv) := by
    rw [World.cell?_setCell_far _ ⟨b, o + 3, none⟩ ⟨sb, so + off, none⟩ _ (Ne.symm hsb)]; exact hbyte
  have hs1 : ((w.drewN k1).setCell ⟨b, o + 3, none⟩ (.int .i32 (pos + 1))).heap.size = w.heap.size := by simp [World.setCell]
  generalize (w.drewN k1).setCell ⟨b, o + 3, none⟩ (.int .i32 (pos + 1)) = W1 at *
  have c0 := (hB1.cell o).trans (get_set h00 (by omega))
  have c2 := (hB1.cell (o + 2)).trans (get_set h2 (by omega))
  have c4 := (hB1.cell (o + 4)).trans (get_set h4 (by omega))
  have c5 := (hB1.cell (o + 5)).trans (get_set h5 (by omega))
  have hf := hB1.frozen
  have hb1 : b < W1.heap.size := hB1.lt
  have hi0 : (0 : Int) ≤ (off : Int) := by omega
  have hi1 : (off : Int) < (n : Int) := by omega
  have HS := Lib.hid hs1
  have HB := Lib.hid hB1
  have HF := Lib.hid hF1
  have H0 := Lib.hid hB
  clear hs1 hB1 hF1 hB h6 h2 h00 h3 h4 h5
  go_still_tail 10, (by kernel_rfl)
  change wpList _ _ _ _ _ W1.drew
  go_wp2_with (go_at_call 68; refine (hop _).mono ?_; rintro e w' ⟨rfl, rfl⟩)
  go_ret
  refine ⟨rfl, ?_, ?_, ?_⟩
  · rw [← HS.out]
    have := Blk.new (((W1.setCell ⟨b, o + 2, none⟩ (.int .i32 (off + 1))).setCell ⟨b, o + 4, none⟩ (.pointer (some ⟨W1.heap.size, 0, none⟩))).setCell ⟨b, o + 5, none⟩ (.slice none 0 0)) 154 #[.int .u8 opv, .string nm, .int .i64 1]
    simp only [World.setCell, Array.size_modify] at this
    exact this.drew
  · rw [← HS.out]
    exact ((((HB.out.set_ _ _).set_ _ _).set_ _ _).alloc _).drew
  · exact ((((HF.out.setCell (p := ⟨b, o + 2, none⟩) (fun _ => rfl) _).setCell (p := ⟨b, o + 4, none⟩) (fun _ => rfl) _).setCell (p := ⟨b, o + 5, none⟩) (fun _ => rfl) _).alloc _).drew
/-- Next at an opcode that carries L bytes. -/
theorem next_data (w : World) (b o t n c : Nat) (cs : Array Value) (off : Nat) (pos : Int) (oldop olddata : Value) (opv : Nat) (nm : ByteArray) (sb so : Nat)
    (L : Nat) (hL0 : 1 ≤ L) (hL : L ≤ 75) (hop : OpIs opv nm (L + 1)) (h1 : off + 1 + L ≤ n) (hc : n ≤ c) (hn : n ≤ 2147483647) (hp0 : -1 ≤ pos) (hp : pos ≤ 2147483000)
    (hB : Blk w b t cs)
    (h6 : cs[o + 6]? = some .nilIface) (h2 : cs[o + 2]? = some (.int .i32 off)) (h00 : cs[o]? = some (.slice (some ⟨sb, so, none⟩) n c))
    (h3 : cs[o + 3]? = some (.int .i32 pos)) (h4 : cs[o + 4]? = some oldop) (h5 : cs[o + 5]? = some olddata)
    (hsb : sb ≠ b) (hbyte : w.cell? ⟨sb, so + off, none⟩ = some (.int .u8 opv)) :
    Calls Tryz.prog 41 #[.pointer (some ⟨b, o, none⟩)] w fun e w' => e = .returned (.bool true) ∧
      Blk w' w.heap.size 154 #[.int .u8 opv, .string nm, .int .i64 (L + 1)] ∧
      Blk w' b t (tokSet cs o (pos + 1) (off + (L + 1)) (.pointer (some ⟨w.heap.size, 0, none⟩)) (.slice (some ⟨sb, so + off + 1, none⟩) L (c - off - 1))) ∧ Fm (M1 b) w w' := by
  have hbl := hB.lt
  have c3 := (hB.cell (o + 3)).trans h3
  have hf := hB.frozen
  have hdone := done_any w b o n c (some ⟨sb, so, none⟩) off (by omega) (by omega) hn ((hB.cell (o + 6)).trans h6) ((hB.cell (o + 2)).trans h2) ((hB.cell o).trans h00)
  go_enter Tryz.func41, Tryz.ntmps41
  go_wp2_with fail
  refine hdone.mono ?_
  clear hdone
  rintro e w1 ⟨rfl, k1, rfl⟩
  go_wp2_with fail
  clear c3 hf
  have hB1 := (hB.drewN k1).set_ (o + 3) (.int .i32 (pos + 1))
  have hF1 : Fm (M1 b) w ((w.drewN k1).setCell ⟨b, o + 3, none⟩ (.int .i32 (pos + 1))) := Fm.setCell (M := M1 b) (p := ⟨b, o + 3, none⟩) ((Fm.refl _ w).drewN k1) (fun _ => rfl) _
  have hbyte1 : ((w.drewN k1).setCell ⟨b, o + 3, none⟩ (.int .i32 (pos + 1))).cell? ⟨sb, so + off, none⟩ = some (.int .u8 opv) := by
    rw [World.cell?_setCell_far _ ⟨b, o + 3, none⟩ ⟨sb, so + off, none⟩ _ (Ne.symm hsb)]; exact hbyte
  have hs1 : ((w.drewN k1).setCell ⟨b, o + 3, none⟩ (.int .i32 (pos + 1))).heap.size = w.heap.size := by simp [World.setCell]
  generalize (w.drewN k1).setCell ⟨b, o + 3, none⟩ (.int .i32 (pos + 1)) = W1 at *
  have c0 := (hB1.cell o).trans (get_set h00 (by omega))
  have c2 := (hB1.cell (o + 2)).trans (get_set h2 (by omega))
  have c4 := (hB1.cell (o + 4)).trans (get_set h4 (by omega))
  have c5 := (hB1.cell (o + 5)).trans (get_set h5 (by omega))
  have hf := hB1.frozen
  have hb1 : b < W1.heap.size := hB1.lt
  have hi0 : (0 : Int) ≤ (off : Int) := by omega
  have hi1 : (off : Int) < (n : Int) := by omega
  have HS := Lib.hid hs1
  have HB := Lib.hid hB1
  have HF := Lib.hid hF1
  have H0 := Lib.hid hB
  clear hs1 hB1 hF1 hB h6 h2 h00 h3 h4 h5
  go_still_tail 10, (by kernel_rfl)
  change wpList _ _ _ _ _ W1.drew
  go_wp2_with (go_at_call 68; refine (hop _).mono ?_; rintro e w' ⟨rfl, rfl⟩)
  have hco : ¬ (c = off) := by omega
  have hnc : (n : Int) ≤ (c : Int) := by omega
  have hon : (off : Int) ≤ (n : Int) := by omega
  go_quiet (fail)
  rename_i nq
  go_wp2_with fail
  have hB2 := (HB.out.alloc (.cells #[.int .u8 opv, .string nm, .int .i64 (L + 1)] 154)).drewN (1 + nq)
  have hN2 := (Blk.new W1 154 #[.int .u8 opv, .string nm, .int .i64 (L + 1)]).drewN (1 + nq)
  have hF2 := (HF.out.alloc (.cells #[.int .u8 opv, .string nm, .int .i64 (L + 1)] 154)).drewN (1 + nq)
  have hnb : W1.heap.size ≠ b := by omega
  generalize (W1.alloc (.cells #[.int .u8 opv, .string nm, .int .i64 (L + 1)] 154)).drewN (1 + nq) = W2 at *
  have e2 : W2.cell? ⟨b, o + 2, none⟩ = some (.int .i32 off) := by rw [hB2.cell, ← HB.out.cell]; exact c2
  have e4 : W2.cell? ⟨b, o + 4, none⟩ = some oldop := by rw [hB2.cell, ← HB.out.cell]; exact c4
  have e5 : W2.cell? ⟨b, o + 5, none⟩ = some olddata := by rw [hB2.cell, ← HB.out.cell]; exact c5
  have en : W2.cell? ⟨W1.heap.size, 2, none⟩ = some (.int .i64 (L + 1)) := by rw [hN2.cell]; rfl
  have ef := hB2.frozen
  have hb2 := hB2.lt
  have hL1 : (1 : Int) ≤ (L : Int) + 1 := by omega
  have hL2 : (L : Int) + 1 ≤ ((n - off : Nat) : Int) := by omega
  have hL3 : ((n - off : Nat) : Int) ≤ ((c - off : Nat) : Int) := by omega
  have HB2 := Lib.hid hB2
  have HN2 := Lib.hid hN2
  have HF2 := Lib.hid hF2
  clear hB2 hN2 hF2 c0 c2 c4 c5 hf hbyte1 hbyte
  go_still_tail 12, (by kernel_rfl)
  change wpList _ _ _ _ _ W2.drew
  go_wp2
  go_ret
  rw [← HS.out]
  refine ⟨rfl, ?_, ?_, ?_⟩
  · exact (((HN2.out.far (p := ⟨b, o + 2, none⟩) hnb _).far (p := ⟨b, o + 4, none⟩) hnb _).far (p := ⟨b, o + 5, none⟩) hnb _).drew
  · exact (((HB2.out.set_ _ _).set_ _ _).set_ _ _).drew
  · exact (((HF2.out.setCell (p := ⟨b, o + 2, none⟩) (fun _ => rfl) _).setCell (p := ⟨b, o + 4, none⟩) (fun _ => rfl) _).setCell (p := ⟨b, o + 5, none⟩) (fun _ => rfl) _).drew

end Go.Proofs.YtkgihpebghmnbaaGreatDoor

namespace Go.Proofs.YtkgihpebghmnbaaGreatDoor
open Go.RowKit Go.Proofs

set_option maxRecDepth 100000

/-- From which block on rows of elements may turn, and which of them may not. -/
structure Bd where
  n : Nat
  x : Nat → Prop
/-- The bound fits the world. -/
structure Bd.Ok (B : Bd) (w : World) : Prop where
  le_ : B.n ≤ w.heap.size
  lt_ : ∀ k, B.x k → k < w.heap.size
theorem Bd.Ok.le {B : Bd} {w w' : World} (h : Bd.Ok B w) (hs : w.heap.size ≤ w'.heap.size) : Bd.Ok B w' := ⟨Nat.le_trans h.le_ hs, fun k hk => Nat.lt_of_lt_of_le (h.lt_ k hk) hs⟩

/-- What a step of the machine may turn: its own block, and rows of elements from block B on, but those that are kept. -/
def Mx (g : Nat) (B : Bd) (w : World) (k : Nat) : Prop := k = g ∨ (B.n ≤ k ∧ ¬ B.x k ∧ ∃ cs fr, w.heap[k]? = some (.cells cs 30 fr))
def Fs (g : Nat) (B : Bd) (w w' : World) : Prop := Fm (Mx g B w) w w'

section
variable {g : Nat} {B : Bd} {b : Nat} {w w' w'' : World} {t : TypeId} {cs ds : Array Value} {xss : List (List UInt8)}
theorem Fs.refl (g : Nat) (B : Bd) (w : World) : Fs g B w w := Fm.refl _ _
theorem Fs.trans (h : Fs g B w w') (k : Fs g B w' w'') : Fs g B w w'' := by
  refine Fm.trans' h k fun j hj hm => ?_
  by_cases h0 : Mx g B w j
  · exact h0
  · rcases hm with rfl | ⟨hB, hX, cs, fr, hh⟩
    · exact .inl rfl
    · exact .inr ⟨hB, hX, cs, fr, by rw [← h.block j hj h0]; exact hh⟩
theorem Fs.of_m1 (h : Fm (M1 g) w w') : Fs g B w w' := h.mono fun _ _ hm => .inl hm
theorem Fs.of_m2 {v : Value} {base n : Nat} {xs : List Value} (h : Fm (M2 g v) w w') (ho : w.ownsRow base 30 1 v n xs) (hb : B.n ≤ base) (hx : ∀ k, v.ownBlock = some k → ¬ B.x k) : Fs g B w w' := by
  refine h.mono fun j _ hm => ?_
  rcases hm with rfl | hv
  · exact .inl rfl
  · rcases ho.2 with ⟨rfl, _⟩ | ⟨g', cap, cur, rfl, hbg, hgg, _⟩
    · simp [Value.ownBlock] at hv
    · have : g' = j := by simpa [Value.ownBlock] using hv
      subst this
      exact .inr ⟨by omega, hx _ rfl, cur, (0, 0), hgg⟩
theorem Fs.of_below (h : Below w.heap.size w w') : Fs g B w w' := Fm.of_below h
theorem Fs.below (h : Fs g B w w') (k : Below w'.heap.size w' w'') : Fs g B w w'' := h.trans (Fs.of_below k)
theorem Fs.drewN (h : Fs g B w w') (n : Nat) : Fs g B w (w'.drewN n) := Fm.drewN h n
theorem Fs.drew (h : Fs g B w w') : Fs g B w w'.drew := Fm.drew h
theorem Fs.set (h : Fs g B w w') (i : Nat) (u : Value) : Fs g B w (w'.setCell ⟨g, i, none⟩ u) := Fm.setCell (M := Mx g B w) (p := ⟨g, i, none⟩) h (fun _ => .inl rfl) u
theorem Fs.rd {v : Value} {bs : List UInt8} (h : Fs g B w w') (hg : Blk w g 111 cs) (hr : Rd 0 w v bs) : Rd 0 w' v bs := by
  refine hr.fm h fun k _ hm => ⟨Nat.zero_le _, ?_⟩
  rcases hm with rfl | ⟨_, _, ds, fr, hh⟩
  · exact ⟨cs, _, _, hg, by simp [Sx]⟩
  · exact ⟨ds, _, fr, hh, by simp [Sx]⟩
theorem Fs.rdl {vs : List Value} (h : Fs g B w w') (hg : Blk w g 111 cs) (hr : RdL 0 w vs xss) : RdL 0 w' vs xss := ⟨hr.1, fun i v xs h1 h2 => h.rd hg (hr.2 i v xs h1 h2)⟩
theorem Fs.blk (h : Fs g B w w') (hb : Blk w b t ds) (hg : b ≠ g) (ho : b < B.n ∨ t ≠ 30) : Blk w' b t ds := by
  refine hb.fm h ?_
  rintro (e | ⟨hB, hX, cs, fr, hh⟩)
  · exact hg e
  · rcases ho with ho | ho
    · omega
    · unfold Blk at hb
      rw [hb] at hh
      injection hh with hh
      injection hh with _ e
      exact ho e

/-- All cells but that of the stack's row are as they were. -/
def K23 (cs cs' : Array Value) : Prop := ∀ i, i ≠ 23 → cs'[i]? = cs[i]?
theorem K23.refl (cs : Array Value) : K23 cs cs := fun _ _ => rfl
theorem K23.set (cs : Array Value) (u : Value) : K23 cs (cs.setIfInBounds 23 u) := fun i hi => by
  rw [Array.getElem?_setIfInBounds, if_neg (fun h => hi h.symm)]
theorem K23.trans {a b c : Array Value} (h : K23 a b) (k : K23 b c) : K23 a c := fun i hi => (k i hi).trans (h i hi)

/-- The machine g with these elements on its stack. -/
structure Vm (w : World) (g : Nat) (B : Bd) (cs : Array Value) (xss : List (List UInt8)) : Prop where
  blk : Blk w g 111 cs
  base : Bd.Ok B w
  free : ∀ (v : Value) (k : Nat), cs[23]? = some v → v.ownBlock = some k → ¬ B.x k
  stk : ∃ A c items, cs[23]? = some (.slice A xss.length c) ∧ w.ownsRow B.n 30 1 (.slice A xss.length c) xss.length items ∧ RdL 0 w items xss

theorem Vm.below (h : Vm w g B cs xss) (k : Below w.heap.size w w') : Vm w' g B cs xss := by
  obtain ⟨A, c, items, h1, h2, h3⟩ := h.stk
  exact ⟨h.blk.below k h.blk.lt, h.base.le k.size, h.free, A, c, items, h1, own_below h2 k, h3.below k⟩
theorem Vm.drewN (h : Vm w g B cs xss) (n : Nat) : Vm (w.drewN n) g B cs xss := by
  obtain ⟨A, c, items, h1, h2, h3⟩ := h.stk
  exact ⟨h.blk, ⟨h.base.le_, h.base.lt_⟩, h.free, A, c, items, h1, h2, h3⟩
/-- A cell that is not the stack's is stored. -/
theorem Vm.set (h : Vm w g B cs xss) (i : Nat) (u : Value) (hi : i ≠ 23) : Vm (w.setCell ⟨g, i, none⟩ u) g B (cs.setIfInBounds i u) xss := by
  obtain ⟨A, c, items, h1, h2, h3⟩ := h.stk
  refine ⟨h.blk.set_ i u, ⟨by simpa [World.setCell] using h.base.le_, fun k hk => by simpa [World.setCell] using h.base.lt_ k hk⟩, fun v k hv => h.free v k (by rwa [Array.getElem?_setIfInBounds, if_neg hi] at hv), A, c, items, ?_, own_set h2 (p := ⟨g, i, none⟩) h.blk (by decide) u, ?_⟩
  · rw [Array.getElem?_setIfInBounds, if_neg hi]; exact h1
  · exact ((Fs.refl g B w).set i u).rdl h.blk h3
/-- The same machine where other blocks have turned. -/
theorem Vm.m1 {b : Nat} (h : Vm w g B cs xss) (k : Fm (M1 b) w w') (hb : b ≠ g) (ht : ∃ ds t fr, w.heap[b]? = some (.cells ds t fr) ∧ t ≠ 30 ∧ t ∈ Sx) : Vm w' g B cs xss := by
  obtain ⟨A, c, items, h1, h2, h3⟩ := h.stk
  obtain ⟨ds, t, fr, hh, ht, hs⟩ := ht
  refine ⟨h.blk.fm k (fun e => hb e.symm), h.base.le k.size, h.free, A, c, items, h1, own_fm h2 k ?_, ⟨h3.1, fun i v xs a1 a2 => (h3.2 i v xs a1 a2).fm k ?_⟩⟩
  · rintro j hj rfl
    rcases h2.2 with ⟨e, _⟩ | ⟨g', cap, cur, e, hbg, hgg, _⟩
    · rw [e] at hj; simp [Value.ownBlock] at hj
    · rw [e] at hj
      have : g' = j := by simpa [Value.ownBlock] using hj
      subst this
      rw [hgg] at hh
      injection hh with hh
      injection hh with _ e2
      exact ht e2.symm
  · rintro j _ rfl
    exact ⟨Nat.zero_le _, ds, t, fr, hh, hs⟩
end

theorem free_here {cs : Array Value} {X : Nat → Prop} {A : Option Addr} {n m c : Nat} (h1 : cs[23]? = some (.slice A n c)) (hf : ∀ (v : Value) (k : Nat), cs[23]? = some v → v.ownBlock = some k → ¬ X k) :
    ∀ (v : Value) (k : Nat), (cs.setIfInBounds 23 (.slice A m c))[23]? = some v → v.ownBlock = some k → ¬ X k := fun v k hv hk => by
  rw [get_here h1] at hv
  injection hv with hv
  subst hv
  exact hf _ k h1 (by cases A <;> exact hk)

/-- PushByteArray of the machine's stack. -/
theorem push_vm (w : World) (g : Nat) (B : Bd) (cs : Array Value) (xss : List (List UInt8)) (v : Value) (xs : List UInt8) (h : Vm w g B cs xss) (hv : Rd 0 w v xs) (hn : xss.length ≤ 100000) :
    Calls Tryz.prog 176 #[.pointer (some ⟨g, 23, none⟩), v] w fun e w' => e = .returned (.tuple #[]) ∧
      ∃ cs', Vm w' g B cs' (xss ++ [xs]) ∧ K23 cs cs' ∧ Fs g B w w' := by
  obtain ⟨A, c, items, h1, h2, h3⟩ := h.stk
  obtain ⟨As, c', rfl, hc'⟩ := hv.slice
  refine (push_any w g 23 _ B.n xss.length cs A As c xs.length c' items h.blk h1 h2 (by decide) hn h.base.le_).mono ?_
  rintro e w' ⟨rfl, A', cc, hb, ho, hf, hat⟩
  have hfs : Fs g B w w' := Fs.of_m2 hf h2 (Nat.le_refl _) (fun k hk => h.free _ k h1 hk)
  refine ⟨rfl, _, ⟨hb, h.base.le hf.size, fun v k hv hk => ?_, A', cc, items ++ [.slice As xs.length c'], ?_, ?_, ?_⟩, K23.set _ _, hfs⟩
  · rw [get_here h1] at hv
    injection hv with hv
    subst hv
    rcases hat with e | e | e
    · exact h.free _ k h1 (e ▸ hk)
    · rw [e] at hk
      injection hk with hk
      intro hx
      have := h.base.lt_ k hx
      omega
    · rw [e] at hk
      injection hk with hk
      intro hx
      have := h.base.lt_ k hx
      omega
  · rw [List.length_append]; exact get_here h1
  · simpa using ho
  · exact (hfs.rdl h.blk h3).snoc (hfs.rd h.blk hv)

theorem pop_vm (w : World) (g : Nat) (B : Bd) (cs : Array Value) (xss : List (List UInt8)) (xs : List UInt8) (h : Vm w g B cs (xss ++ [xs])) (hn : xss.length ≤ 100000) :
    Calls Tryz.prog 89 #[.pointer (some ⟨g, 23, none⟩)] w fun e w' => ∃ v, e = .returned (.tuple #[v, .nilIface]) ∧ Rd 0 w' v xs ∧
      ∃ cs', Vm w' g B cs' xss ∧ K23 cs cs' ∧ Fs g B w w' := by
  obtain ⟨A, c, items, h1, h2, h3⟩ := h.stk
  have hl : items.length = xss.length + 1 := by rw [h3.1]; simp
  obtain ⟨its, x, rfl⟩ : ∃ its x, items = its ++ [x] := ⟨items.dropLast, items.getLast (by intro e; simp [e] at hl), (List.dropLast_concat_getLast _).symm⟩
  obtain ⟨h4, h5⟩ := h3.init
  obtain ⟨Ax, cx, rfl, hcx⟩ := h5.slice
  have e : (xss ++ [xs]).length = xss.length + 1 := by simp
  rw [e] at h1 h2
  refine (pop_any w g 23 _ B.n xss.length cs A Ax c xs.length cx its h.blk h1 h2 (by decide) hn).mono ?_
  rintro e w' ⟨rfl, hb, ho, hf⟩
  have hfs : Fs g B w w' := Fs.of_m1 hf
  exact ⟨_, rfl, hfs.rd h.blk h5, _, ⟨hb, h.base.le hf.size, free_here h1 h.free, A, c, its, get_here h1, ho, hfs.rdl h.blk h4⟩, K23.set _ _, hfs⟩

theorem peek_vm (w : World) (g : Nat) (B : Bd) (cs : Array Value) (xss : List (List UInt8)) (xs : List UInt8) (h : Vm w g B cs (xss ++ [xs])) (hn : xss.length ≤ 100000) :
    Calls Tryz.prog 65 #[.pointer (some ⟨g, 23, none⟩), .int .i32 0] w fun e w' => ∃ A c, e = .returned (.tuple #[.slice A xs.length c, .nilIface]) ∧ Rd 0 w (.slice A xs.length c) xs ∧ w = w' := by
  obtain ⟨A, c, items, h1, h2, h3⟩ := h.stk
  have hl : items.length = xss.length + 1 := by rw [h3.1]; simp
  obtain ⟨its, x, rfl⟩ : ∃ its x, items = its ++ [x] := ⟨items.dropLast, items.getLast (by intro e; simp [e] at hl), (List.dropLast_concat_getLast _).symm⟩
  obtain ⟨h4, h5⟩ := h3.init
  obtain ⟨Ax, cx, rfl, hcx⟩ := h5.slice
  have e : (xss ++ [xs]).length = xss.length + 1 := by simp
  rw [e] at h1 h2
  refine (peek0_any w g 23 _ B.n xss.length cs A Ax c xs.length cx its h.blk h1 h2 hn).mono ?_
  rintro e w' ⟨rfl, rfl⟩
  exact ⟨_, _, rfl, h5, rfl⟩

/-- What an opcode leaves that runs well. -/
def Leaves (w : World) (g : Nat) (B : Bd) (cs : Array Value) (xss : List (List UInt8)) (e : Ending) (w' : World) : Prop :=
  e = .returned .nilIface ∧ ∃ cs', Vm w' g B cs' xss ∧ K23 cs cs' ∧ Fs g B w w'

theorem false_vm (w : World) (g : Nat) (B : Bd) (cs : Array Value) (xss : List (List UInt8)) (op data : Value) (h : Vm w g B cs xss) (hn : xss.length ≤ 100000) :
    Calls Tryz.prog 106 #[op, data, .pointer (some ⟨g, 0, none⟩)] w (Leaves w g B cs (xss ++ [[]])) := by
  have H := Lib.hid (push_vm w g B cs xss (.slice none 0 0) [] h (Rd.nil _ _ _ _) hn)
  have hbl := h.blk.lt
  clear h
  go_enter Tryz.func106, Tryz.ntmps106
  go_wp2_with fail
  refine H.out.mono ?_
  rintro e w' ⟨rfl, h⟩
  have h := Lib.hid h
  go_wp2
  go_ret
  exact ⟨rfl, h.out⟩

theorem pushData_vm (w : World) (g : Nat) (B : Bd) (cs : Array Value) (xss : List (List UInt8)) (op data : Value) (xs : List UInt8) (h : Vm w g B cs xss) (hd : Rd 0 w data xs) (hn : xss.length ≤ 100000) :
    Calls Tryz.prog 107 #[op, data, .pointer (some ⟨g, 0, none⟩)] w (Leaves w g B cs (xss ++ [xs])) := by
  have H := Lib.hid (push_vm w g B cs xss data xs h hd hn)
  have hbl := h.blk.lt
  clear h hd
  go_enter Tryz.func107, Tryz.ntmps107
  go_wp2_with fail
  refine H.out.mono ?_
  rintro e w' ⟨rfl, h⟩
  have h := Lib.hid h
  go_wp2
  go_ret
  exact ⟨rfl, h.out⟩

theorem pushInt_vm (w : World) (g : Nat) (B : Bd) (cs : Array Value) (xss : List (List UInt8)) (k : Nat) (h1 : 1 ≤ k) (h2 : k ≤ 16) (h : Vm w g B cs xss) (hn : xss.length ≤ 100000) :
    Calls Tryz.prog 189 #[.pointer (some ⟨g, 23, none⟩), .int .i64 k] w fun e w' => e = .returned (.tuple #[]) ∧
      ∃ cs', Vm w' g B cs' (xss ++ [[UInt8.ofNat k]]) ∧ K23 cs cs' ∧ Fs g B w w' := by
  have H := Lib.hid (bytes_small w k (by omega) (by omega))
  have HV := Lib.hid h
  clear h
  go_enter Tryz.func189, Tryz.ntmps189
  go_wp2_with fail
  refine H.out.mono ?_
  rintro e w1 ⟨A, c, rfl, ho, hb⟩
  have hrd : Rd 0 w1 (.slice A 1 c) [UInt8.ofNat k] := by
    refine Rd.of_own (base := w.heap.size) (e := 5) ?_ (by decide)
    have : bv [UInt8.ofNat k] = [.int .u8 (k : Int)] := by
      have hk : k % 256 = k := by omega
      simp [bv, hk]
    rw [this]
    exact ho
  have H2 := Lib.hid (push_vm w1 g B cs xss _ _ (HV.out.below hb) hrd hn)
  have hfb : Fs g B w w1 := Fs.of_below hb
  have HF := Lib.hid hfb
  clear hb ho hrd hfb
  go_wp2_with fail
  refine H2.out.mono ?_
  rintro e w' ⟨rfl, cs', k1, k2, k3⟩
  have k1 := Lib.hid k1
  have k2 := Lib.hid k2
  have k3 := Lib.hid k3
  go_wp2
  go_end0
  exact ⟨rfl, cs', k1.out, k2.out, HF.out.trans k3.out⟩

theorem opcodeN_vm (w : World) (g : Nat) (B : Bd) (ob : Nat) (cs : Array Value) (xss : List (List UInt8)) (data : Value) (v : Nat) (h1 : 81 ≤ v) (h2 : v ≤ 96) (hc : w.cell? ⟨ob, 0, none⟩ = some (.int .u8 v)) (h : Vm w g B cs xss) (hn : xss.length ≤ 100000) :
    Calls Tryz.prog 110 #[.pointer (some ⟨ob, 0, none⟩), data, .pointer (some ⟨g, 0, none⟩)] w (Leaves w g B cs (xss ++ [[UInt8.ofNat (v - 80)]])) := by
  have H : Hid (∀ n, _) := fun n => pushInt_vm (w.drewN n) g B cs xss (v - 80) (by omega) (by omega) (h.drewN n) hn
  have hbl := h.blk.lt
  have hw : ((v : Int) - 80) % 256 = ((v - 80 : Nat) : Int) := by omega
  clear h
  go_enter Tryz.func110, Tryz.ntmps110
  go_wp2
  go_still_tail 9, (by kernel_rfl)
  change wpList _ _ _ _ _ w.drew
  go_wp2_with fail
  rw [show (v : Int) - 80 = ((v - 80 : Nat) : Int) by omega]
  refine (H.out 1).mono ?_
  rintro e w' ⟨rfl, h⟩
  have h := Lib.hid h
  go_wp2
  go_ret
  obtain ⟨cs', k1, k2, k3⟩ := h.out
  exact ⟨rfl, cs', k1, k2, ((Fs.refl g B w).drewN 1).trans k3⟩

end Go.Proofs.YtkgihpebghmnbaaGreatDoor

namespace Go.Proofs.YtkgihpebghmnbaaGreatDoor
open Go.RowKit Go.Proofs

set_option maxRecDepth 100000

theorem dropN1_vm (w : World) (g : Nat) (B : Bd) (cs : Array Value) (xss : List (List UInt8)) (xs : List UInt8) (h : Vm w g B cs (xss ++ [xs])) (hn : xss.length ≤ 100000) :
    Calls Tryz.prog 60 #[.pointer (some ⟨g, 23, none⟩), .int .i32 1] w (Leaves w g B cs xss) := by
  have H := Lib.hid (pop_vm w g B cs xss xs h hn)
  clear h
  go_enter Tryz.func60, Tryz.ntmps60
  go_wp2
  refine wp_loop_rounds 2 ?_
  rw [rounds_succ]
  go_wp2_with fail
  refine H.out.mono ?_
  rintro e w' ⟨v, rfl, -, h⟩
  have h := Lib.hid h
  go_wp2
  rw [rounds_succ]
  go_wp2
  go_ret
  exact ⟨rfl, h.out⟩

theorem drop_vm (w : World) (g : Nat) (B : Bd) (cs : Array Value) (xss : List (List UInt8)) (xs : List UInt8) (op data : Value) (h : Vm w g B cs (xss ++ [xs])) (hn : xss.length ≤ 100000) :
    Calls Tryz.prog 130 #[op, data, .pointer (some ⟨g, 0, none⟩)] w (Leaves w g B cs xss) := by
  have H := Lib.hid (dropN1_vm w g B cs xss xs h hn)
  have hbl := h.blk.lt
  clear h
  go_enter Tryz.func130, Tryz.ntmps130
  go_wp2_with fail
  refine H.out.mono ?_
  rintro e w' ⟨rfl, h⟩
  have h := Lib.hid h
  go_wp2
  go_ret
  exact ⟨rfl, h.out⟩

/-- hasFlag. -/
theorem hasFlag_any (w : World) (g : Nat) (fl m r : Int) (hr : bits .and .u32 fl m = r) (h : w.cell? ⟨g, 0, none⟩ = some (.int .u32 fl)) :
    Calls Tryz.prog 50 #[.pointer (some ⟨g, 0, none⟩), .int .u32 m] w fun e w' => e = .returned (.bool (r == m)) ∧ w = w' := by
  go_enter Tryz.func50, Tryz.ntmps50
  go_wp2
  go_ret
  exact ⟨rfl, rfl⟩

/-- A fault of the machine. -/
def Fault (r : Value) : Prop := ∃ (c : Int) (s : ByteArray), r = .iface 93 (.agg #[.int .i64 c, .string s]) ∧ 0 ≤ c ∧ c ≤ 1000

/-- Whether a lock is met. -/
def Met (a l : Int) : Prop := a ≤ l ∧ (a < 500000000 ↔ l < 500000000)
def LockEnd (w : World) (a l : Int) (e : Ending) (w' : World) : Prop := ∃ r, e = .returned r ∧ Below w.heap.size w w' ∧ ((r = .nilIface ∧ Met a l) ∨ (Fault r ∧ ¬ Met a l))
theorem LockEnd.good {w : World} {a l : Int} (h : Met a l) : LockEnd w a l (.returned .nilIface) w := ⟨_, rfl, Below.refl _ _, .inl ⟨rfl, h⟩⟩
theorem LockEnd.bad {w w' : World} {a l c : Int} {s : ByteArray} (h : ¬ Met a l) (h0 : 0 ≤ c) (h1 : c ≤ 1000) (hb : Below w.heap.size w w') : LockEnd w a l (.returned (.iface 93 (.agg #[.int .i64 c, .string s]))) w' := ⟨_, rfl, hb, .inr ⟨⟨c, s, rfl, h0, h1⟩, h⟩⟩

/-- verifyLockTime. -/
theorem verifyLock_any (w : World) (l a : Int) (hl : 0 ≤ l) (hl2 : l < 4294967296) (ha : 0 ≤ a) (ha2 : a < 1099511627776) :
    Calls Tryz.prog 193 #[.int .i64 l, .int .i64 500000000, .int .i64 a] w (LockEnd w a l) := by
  rcases (show (l < 500000000 ∧ a < 500000000) ∨ (l < 500000000 ∧ ¬ a < 500000000) ∨ (¬ l < 500000000 ∧ a < 500000000) ∨ (¬ l < 500000000 ∧ ¬ a < 500000000) by omega) with ⟨h1, h2⟩ | ⟨h1, h2⟩ | ⟨h1, h2⟩ | ⟨h1, h2⟩
  · by_cases h3 : l < a
    · have HM : Hid (¬ Met a l) := fun ⟨h, _⟩ => by omega
      go_enter Tryz.func193, Tryz.ntmps193
      go_wp2_with fail
      refine (scriptError_any _ _ _).mono ?_
      rintro e w1 ⟨rfl, h⟩
      have h := Lib.hid h
      go_wp2
      go_ret
      exact LockEnd.bad HM.out (by omega) (by omega) h.out
    · have HM : Hid (Met a l) := ⟨by omega, by omega⟩
      go_enter Tryz.func193, Tryz.ntmps193
      go_wp2
      go_ret
      exact LockEnd.good HM.out
  · have HM : Hid (¬ Met a l) := fun ⟨_, h⟩ => by omega
    go_enter Tryz.func193, Tryz.ntmps193
    go_wp2_with fail
    refine (scriptError_any _ _ _).mono ?_
    rintro e w1 ⟨rfl, h⟩
    have h := Lib.hid h
    go_wp2
    go_ret
    exact LockEnd.bad HM.out (by omega) (by omega) h.out
  · have HM : Hid (¬ Met a l) := fun ⟨_, h⟩ => by omega
    have e1 : ¬ (500000000 ≤ a) := by omega
    have e2 : decide (500000000 ≤ a) = false := by simp; omega
    have e3 : 500000000 ≤ l := by omega
    go_enter Tryz.func193, Tryz.ntmps193
    go_wp2_with fail
    refine (scriptError_any _ _ _).mono ?_
    rintro e w1 ⟨rfl, h⟩
    have h := Lib.hid h
    go_wp2
    go_ret
    exact LockEnd.bad HM.out (by omega) (by omega) h.out
  · have e1 : 500000000 ≤ a := by omega
    have e2 : decide (500000000 ≤ a) = true := by simp; omega
    have e3 : 500000000 ≤ l := by omega
    by_cases h3 : l < a
    · have HM : Hid (¬ Met a l) := fun ⟨h, _⟩ => by omega
      go_enter Tryz.func193, Tryz.ntmps193
      go_wp2_with fail
      refine (scriptError_any _ _ _).mono ?_
      rintro e w1 ⟨rfl, h⟩
      have h := Lib.hid h
      go_wp2
      go_ret
      exact LockEnd.bad HM.out (by omega) (by omega) h.out
    · have HM : Hid (Met a l) := ⟨by omega, by omega⟩
      go_enter Tryz.func193, Tryz.ntmps193
      go_wp2
      go_ret
      exact LockEnd.good HM.out
end Go.Proofs.YtkgihpebghmnbaaGreatDoor
