/- The machine of a lock's spend. -/
import Derived.Test.YtdhbhbkgjdamoaaGreatDoorPost
import Derived.Test.YtdhbhbkgjdamoaaGreatDoorNew
import Derived.Deep.RegionHeld3
namespace Go.Proofs.YtdhbhbkgjdamoaaGreatDoor
open Go.RowKit Go.Proofs

set_option maxRecDepth 100000

theorem canned_any (w : World) (A : Option Addr) (n c : Nat) (k : Int) :
    Calls Tryz.prog 39 #[.slice A n c, .int .i64 k] w fun e w' => (∃ b, e = .returned (.pointer (some ⟨b, 0, none⟩))) ∧ Below w.heap.size w w' := by
  go_enter Tryz.func39, Tryz.ntmps39
  go_wp2
  go_ret
  exact ⟨⟨_, rfl⟩, (Below.refl _ _).alloc (Nat.le_refl _) _⟩

theorem cell_below {w w' : World} {a : Addr} {u : Value} (h : Below w.heap.size w w') (hc : w.cell? a = some u) : w'.cell? a = some u :=
  (World.cell?_of_block (w := w) (h.block a.block (World.block_lt_of_cell? w _ hc))).trans hc

theorem Blk.step {w w' : World} {g : Nat} {t : TypeId} {cs : Array Value} (h : Blk w g t cs) (hb : Below w.heap.size w w') : Blk w' g t cs := h.below hb h.lt

theorem keepF {w w' : World} {T : Nat} {u v : Value} (h : Below w.heap.size w w') (hS : w.cell? ⟨T, 0, none⟩ = some u ∧ w.cell? ⟨T, 1, none⟩ = some v) : w'.cell? ⟨T, 0, none⟩ = some u ∧ w'.cell? ⟨T, 1, none⟩ = some v := ⟨cell_below h hS.1, cell_below h hS.2⟩

theorem fetcher_any (w : World) (A : Option Addr) (n c : Nat) (bs : List UInt8) (k : Int) (c2 c3 c4 c5 c6 c7 : Value) (h : Rd 0 w (.slice A n c) bs) (hn : n ≤ 1000000000) :
    Calls Tryz.prog 25 #[.agg #[.slice A n c, .int .i64 k, c2, c3, c4, c5, c6, c7]] w fun e w' => (∃ x, e = .returned (.iface 114 x)) ∧ Below w.heap.size w w' := by
  have hb : Below w.heap.size w (w.alloc (.cells #[.slice A n c, .int .i64 k, c2, c3, c4, c5, c6, c7] 40)) := (Below.refl _ _).alloc (Nat.le_refl _) _
  have H := Lib.hid (h.below hb)
  have hT := Blk.new w 40 #[.slice A n c, .int .i64 k, c2, c3, c4, c5, c6, c7]
  have a0 := hT.cell 0
  change _ = some (Value.slice A n c) at a0
  have a1 := hT.cell 1
  change _ = some (Value.int .i64 k) at a1
  have hw : w.heap.size ≤ (w.alloc (.cells #[.slice A n c, .int .i64 k, c2, c3, c4, c5, c6, c7] 40)).heap.size := by simp
  clear h hT
  go_enter Tryz.func25, Tryz.ntmps25
  go_wp2_with fail
  generalize w.alloc (.cells #[.slice A n c, .int .i64 k, c2, c3, c4, c5, c6, c7] 40) = W at *
  have hf0 : Below w.heap.size w W.drew := ⟨hb.os, hb.tape, hb.output, hb.size, hb.block⟩
  generalize hT : w.heap.size = T at *
  go_region_held3 (fun w' => w'.cell? ⟨T, 0, none⟩ = some (.slice A n c) ∧ w'.cell? ⟨T, 1, none⟩ = some (.int .i64 k))
    ((first | exact ⟨a0, a1⟩ | exact keepF (by assumption) (by assumption) | exact keepF (by assumption) ⟨a0, a1⟩))
    (first
      | (go_at_call 23; refine (copied_any W.drew 0 n c A bs (show Rd 0 W.drew _ _ from H.out) hn).mono ?_; rintro e w' ⟨A', c', rfl, -, hb1⟩; have hf1 := Below.trans' hf0 hw (Below.lower hb1 hw); have hz1 := Nat.le_trans hw hb1.size)
      | (go_at_call 39; refine (canned_any _ _ _ _ _).mono ?_; rintro e w' ⟨⟨b, rfl⟩, hb2⟩; have hf2 := Below.trans' (b := T) (w := w) (by assumption) (by assumption) (Below.lower hb2 (by assumption))))
  go_wp2
  go_ret
  exact ⟨⟨_, rfl⟩, by rw [hT]; assumption⟩

/-- What the transaction of the text is that is built of a plain one with one input and one output. -/
def TxPost (w : World) (ver lock : Int) (e : Ending) (w' : World) : Prop :=
  ∃ tb ib rn rc As cs1 txo, e = .returned (.pointer (some ⟨tb, 0, none⟩)) ∧ Blk w' tb 76 #[.int .i32 ver, .slice (some ⟨rn, 0, none⟩) 1 rc, txo, .int .u32 lock] ∧ (∃ A n c, txo = .slice A n c) ∧
    w'.cell? ⟨rn, 0, none⟩ = some (.pointer (some ⟨ib, 0, none⟩)) ∧ w'.cell? ⟨ib, 33, none⟩ = some (.slice As 0 cs1) ∧ w'.cell? ⟨ib, 35, none⟩ = some (.int .u32 100) ∧ Below w.heap.size w w'
/-- txOf's contract, for the transactions of these laws. -/
def TxSaid (inC : Array Value) : Prop := ∀ (w : World) (ri ro c1 c2 : Nat) (ver lock : Int), Blk w ri 56 inC → Blk w ro 58 #[.int .i64 1, .slice none 0 0] →
  Calls Tryz.prog 24 #[.agg #[.int .i32 ver, .slice (some ⟨ri, 0, none⟩) 1 c1, .slice (some ⟨ro, 0, none⟩) 1 c2, .int .u32 lock]] w (TxPost w ver lock)

/-- The cells of a spend. -/
def Sp (T : Nat) (c0 c1 c2 c3 c4 c5 c6 c7 : Value) (w : World) : Prop := w.cell? ⟨T, 0, none⟩ = some c0 ∧ w.cell? ⟨T, 1, none⟩ = some c1 ∧ w.cell? ⟨T, 2, none⟩ = some c2 ∧ w.cell? ⟨T, 3, none⟩ = some c3 ∧
  w.cell? ⟨T, 4, none⟩ = some c4 ∧ w.cell? ⟨T, 5, none⟩ = some c5 ∧ w.cell? ⟨T, 6, none⟩ = some c6 ∧ w.cell? ⟨T, 7, none⟩ = some c7
theorem Sp.keep {w w' : World} {T : Nat} {c0 c1 c2 c3 c4 c5 c6 c7 : Value} (h : Below w.heap.size w w') (hS : Sp T c0 c1 c2 c3 c4 c5 c6 c7 w) : Sp T c0 c1 c2 c3 c4 c5 c6 c7 w' := by
  obtain ⟨h0, h1, h2, h3, h4, h5, h6, h7⟩ := hS
  exact ⟨cell_below h h0, cell_below h h1, cell_below h h2, cell_below h h3, cell_below h h4, cell_below h h5, cell_below h h6, cell_below h h7⟩

set_option maxHeartbeats 2000000 in
theorem engine_lock (inC : Array Value) (hTx : TxSaid inC) (w : World) (A : Option Addr) (n c ri ro c1 c2 l : Nat) (d : List UInt8) (hd : NumOk d) (hl : l < 4294967296) (hrd : Rd 0 w (.slice A n c) (code (lockT d))) (hn : n ≤ 10000)
    (hri : Blk w ri 56 inC) (hro : Blk w ro 58 #[.int .i64 1, .slice none 0 0]) :
    Calls Tryz.prog 13 #[.agg #[.slice A n c, .int .i64 0, .int .i32 2, .slice (some ⟨ri, 0, none⟩) 1 c1, .slice (some ⟨ro, 0, none⟩) 1 c2, .int .u32 l, .int .i64 0, .int .u32 8]] w (EngPost w d l) := by
  have hl1 := hrd.len.1
  subst hl1
  have hpos : Hid (0 < (code (lockT d)).length) := by show 0 < _; rw [lock_code]; simp
  have hb : Below w.heap.size w (w.alloc (.cells #[.slice A (code (lockT d)).length c, .int .i64 0, .int .i32 2, .slice (some ⟨ri, 0, none⟩) 1 c1, .slice (some ⟨ro, 0, none⟩) 1 c2, .int .u32 l, .int .i64 0, .int .u32 8] 40)) := (Below.refl _ _).alloc (Nat.le_refl _) _
  have H := Lib.hid (hrd.below hb)
  have HRI := Lib.hid (hri.below hb hri.lt)
  have HRO := Lib.hid (hro.below hb hro.lt)
  have hT := Blk.new w 40 #[.slice A (code (lockT d)).length c, .int .i64 0, .int .i32 2, .slice (some ⟨ri, 0, none⟩) 1 c1, .slice (some ⟨ro, 0, none⟩) 1 c2, .int .u32 l, .int .i64 0, .int .u32 8]
  have hSp : Sp w.heap.size (.slice A (code (lockT d)).length c) (.int .i64 0) (.int .i32 2) (.slice (some ⟨ri, 0, none⟩) 1 c1) (.slice (some ⟨ro, 0, none⟩) 1 c2) (.int .u32 l) (.int .i64 0) (.int .u32 8) _ :=
    ⟨hT.cell 0, hT.cell 1, hT.cell 2, hT.cell 3, hT.cell 4, hT.cell 5, hT.cell 6, hT.cell 7⟩
  have hw : w.heap.size ≤ (w.alloc (.cells #[.slice A (code (lockT d)).length c, .int .i64 0, .int .i32 2, .slice (some ⟨ri, 0, none⟩) 1 c1, .slice (some ⟨ro, 0, none⟩) 1 c2, .int .u32 l, .int .i64 0, .int .u32 8] 40)).heap.size := by simp
  clear hT hrd hri hro
  go_enter Tryz.func13, Tryz.ntmps13
  go_wp2_with fail
  generalize w.alloc (.cells #[.slice A (code (lockT d)).length c, .int .i64 0, .int .i32 2, .slice (some ⟨ri, 0, none⟩) 1 c1, .slice (some ⟨ro, 0, none⟩) 1 c2, .int .u32 l, .int .i64 0, .int .u32 8] 40) = W at *
  have hf0 : Below w.heap.size w W.drew := ⟨hb.os, hb.tape, hb.output, hb.size, hb.block⟩
  generalize hT : w.heap.size = T at *
  have hSd : Sp T (.slice A (code (lockT d)).length c) (.int .i64 0) (.int .i32 2) (.slice (some ⟨ri, 0, none⟩) 1 c1) (.slice (some ⟨ro, 0, none⟩) 1 c2) (.int .u32 l) (.int .i64 0) (.int .u32 8) W.drew := hSp
  have hN : Hid ((code (lockT d)).length ≤ 1000000000) := show (code (lockT d)).length ≤ 1000000000 by omega
  have HTX := Lib.hid hTx
  have a0 := hSp
  obtain ⟨k0, k1, k2, k3, k4, k5, k6, k7⟩ := a0
  have hSW := Lib.hid hSp
  have hSD := Lib.hid hSd
  clear hSp hSd hTx
  go_region_held3 (fun w' => w'.cell? ⟨T, 0, none⟩ = some (.slice A (code (lockT d)).length c) ∧ w'.cell? ⟨T, 1, none⟩ = some (.int .i64 0) ∧ w'.cell? ⟨T, 2, none⟩ = some (.int .i32 2) ∧ w'.cell? ⟨T, 3, none⟩ = some (.slice (some ⟨ri, 0, none⟩) 1 c1) ∧
      w'.cell? ⟨T, 4, none⟩ = some (.slice (some ⟨ro, 0, none⟩) 1 c2) ∧ w'.cell? ⟨T, 5, none⟩ = some (.int .u32 l) ∧ w'.cell? ⟨T, 6, none⟩ = some (.int .i64 0) ∧ w'.cell? ⟨T, 7, none⟩ = some (.int .u32 8))
    ((first | exact hSD.out | exact hSW.out | exact Sp.keep (by assumption) (by assumption)))
    (first
      | (go_at_call 23
         refine (copied_any W.drew 0 (code (lockT d)).length c A (code (lockT d)) (show Rd 0 W.drew _ _ from H.out) hN.out).mono ?_
         rintro e w1 ⟨A', c', rfl, ho, hb1⟩
         have P1 := Lib.hid (Rd.of_own (B := 0) ho (by decide))
         have H1 := Lib.hid (Rd.below (w := W.drew) (show Rd 0 W.drew _ _ from H.out) hb1)
         have R1 := Lib.hid (Blk.step (w := W.drew) (show Blk W.drew _ _ _ from HRI.out) hb1)
         have O1 := Lib.hid (Blk.step (w := W.drew) (show Blk W.drew _ _ _ from HRO.out) hb1)
         have F1 := Lib.hid (Below.trans' hf0 hw (Below.lower hb1 hw))
         have Z1 : T ≤ w1.heap.size := Nat.le_trans hw hb1.size
         clear ho)
      | (go_at_call 24
         refine (HTX.out _ ri ro c1 c2 2 l R1.out O1.out).mono ?_
         rintro e w2 ⟨tb, ib, rn, rc, As, cs1, txo, rfl, q1, q2, q3, q4, q5, hb2⟩
         have P2 := Lib.hid (P1.out.below hb2)
         have H2 := Lib.hid (H1.out.below hb2)
         have F2 := Lib.hid (Below.trans' F1.out Z1 (Below.lower hb2 Z1))
         have Z2 : T ≤ w2.heap.size := Nat.le_trans Z1 hb2.size
         have Q1 := Lib.hid q1
         have Q2 := Lib.hid q2
         have Q3 := Lib.hid q3
         have Q4 := Lib.hid q4
         have Q5 := Lib.hid q5
         clear q1 q2 q3 q4 q5)
      | (go_at_call 25
         refine (fetcher_any _ A (code (lockT d)).length c (code (lockT d)) 0 _ _ _ _ _ _ H2.out hN.out).mono ?_
         rintro e w3 ⟨⟨x, rfl⟩, hb3⟩
         have P3 := Lib.hid (P2.out.below hb3)
         have F3 := Lib.hid (Below.trans' F2.out Z2 (Below.lower hb3 Z2))
         have Z3 : T ≤ w3.heap.size := Nat.le_trans Z2 hb3.size
         have Q31 := Lib.hid (Blk.step Q1.out hb3)
         have Q33 := Lib.hid (cell_below hb3 Q3.out)
         have Q34 := Lib.hid (cell_below hb3 Q4.out)
         have Q35 := Lib.hid (cell_below hb3 Q5.out))
      | (go_at_call 22
         refine (newEngine_any _ tb ib 0 (code (lockT d)).length c' cs1 rn rc 8 0 _ x A' As (lockT d) 2 0 l txo #[] flags8 P3.out (lockT_ok d hd) hpos.out hn Q31.out Q2.out Q33.out Q34.out).mono ?_
         rintro e w4 ⟨g, sb, rfl, hg, hsb, hgs, hblk, hrow, hb4⟩
         have P4 := Lib.hid (P3.out.below hb4)
         have F4 := Lib.hid (Below.trans' F3.out Z3 (Below.lower hb4 Z3))
         have G4 := Lib.hid hg
         have B4 := Lib.hid hblk
         have L4 := Lib.hid hb4.size
         have Q43 := Lib.hid (cell_below hb4 Q33.out)
         have Q45 := Lib.hid (cell_below hb4 Q35.out)
         have N3 := Lib.hid (World.block_lt_of_cell? _ _ Q33.out)
         have N5 := Lib.hid (World.block_lt_of_cell? _ _ Q35.out)
         clear hg hsb hgs hblk hrow))
  go_wp2
  go_ret2
  obtain ⟨b', o', rfl, -⟩ := P4.out.cell (j := 0) hpos.out
  have n3 : rn < w3.heap.size := N3.out
  have n5 : ib < w3.heap.size := N5.out
  have g4 : w3.heap.size ≤ g := G4.out
  have l4 : w3.heap.size ≤ w4.heap.size := L4.out
  refine ⟨g, ⟨w4.heap.size, fun _ => False⟩, sb, b', o', _, c', rn, rc, ib, _, rfl, ⟨B4.out, ⟨Nat.le_refl _, fun _ h => h.elim⟩, fun _ _ _ _ h => h, none, 0, [], rfl, ⟨rfl, .inl ⟨rfl, rfl⟩⟩, RdL.nil⟩, ?_, hn, P4.out, rfl, rfl, rfl, rfl, rfl, rfl, by (try dsimp only); omega, by omega, by (try dsimp only); omega, by omega, Q43.out, Q45.out, by rw [hT]; exact F4.out, by rw [hT]; omega, by rw [hT]; (try dsimp only); omega⟩
  exact { c6 := rfl, c7 := rfl, c11 := rfl, c12 := rfl, c13 := rfl, c14 := ⟨_, rfl⟩, c15 := rfl, c16 := ⟨_, rfl⟩, c17 := rfl, c18 := rfl, c19 := ⟨_, rfl⟩, c20 := ⟨_, rfl⟩, c21 := rfl, c24 := ⟨_, rfl⟩, c25 := rfl, c27 := rfl, c28 := rfl, c30 := rfl, c32 := rfl }
end Go.Proofs.YtdhbhbkgjdamoaaGreatDoor
