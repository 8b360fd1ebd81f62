/- The machine of a spend whose output's script is given, by the rule of the shortest pushes. -/
import Derived.Test.YtdhbhbkgjdamoaaGreatDoorEngine
import Derived.Test.YtdhbhbkgjdamoaaGreatDoorNewm
namespace Go.Proofs.YtdhbhbkgjdamoaaGreatDoor
open Go.RowKit Go.Proofs

set_option maxRecDepth 100000

/-- What the machine is that is built for a script's spend. -/
def EngP (w : World) (bs : List UInt8) (mn : Bool) (fl : Int) (e : Ending) (w' : World) : Prop :=
  ∃ g B sb pb po n c cs, e = .returned (.tuple #[.pointer (some ⟨g, 0, none⟩), .nilIface]) ∧ Vm w' g B cs [] ∧ En cs sb 1 0 0 (.slice (some ⟨pb, po, none⟩) n c) 0 (-1) ∧ n ≤ 10000 ∧
    Rd 0 w' (.slice (some ⟨pb, po, none⟩) n c) bs ∧ cs[0]? = some (.int .u32 fl) ∧ cs[24]? = some (.bool mn) ∧ cs[25]? = some (.slice none 0 0) ∧ cs[33]? = some .nilFunc ∧ Below w.heap.size w w' ∧ w.heap.size ≤ g ∧ w.heap.size ≤ B.n ∧ cs[23]? = some (.slice none 0 0)

set_option maxHeartbeats 2000000 in
theorem engine_push (inC : Array Value) (hTx : TxSaid inC) (w : World) (A : Option Addr) (n c ri ro c1 c2 l : Nat) (ts : List Tok) (hts : ∀ t ∈ ts, TokS t) (hp0 : 0 < (code ts).length) (hrd : Rd 0 w (.slice A n c) (code ts)) (hn : n ≤ 10000)
    (hri : Blk w ri 56 inC) (hro : Blk w ro 58 #[.int .i64 1, .slice none 0 0]) :
    Calls Tryz.prog 13 #[.agg #[.slice A n c, .int .i64 0, .int .i32 2, .slice (some ⟨ri, 0, none⟩) 1 c1, .slice (some ⟨ro, 0, none⟩) 1 c2, .int .u32 l, .int .i64 0, .int .u32 256]] w (EngP w (code ts) true 256) := by
  have hl1 := hrd.len.1
  subst hl1
  have hpos := Lib.hid hp0
  have HTS := Lib.hid hts
  clear hp0 hts
  have hb : Below w.heap.size w (w.alloc (.cells #[.slice A (code ts).length c, .int .i64 0, .int .i32 2, .slice (some ⟨ri, 0, none⟩) 1 c1, .slice (some ⟨ro, 0, none⟩) 1 c2, .int .u32 l, .int .i64 0, .int .u32 256] 40)) := (Below.refl _ _).alloc (Nat.le_refl _) _
  have H := Lib.hid (hrd.below hb)
  have HRI := Lib.hid (hri.below hb hri.lt)
  have HRO := Lib.hid (hro.below hb hro.lt)
  have hT := Blk.new w 40 #[.slice A (code ts).length c, .int .i64 0, .int .i32 2, .slice (some ⟨ri, 0, none⟩) 1 c1, .slice (some ⟨ro, 0, none⟩) 1 c2, .int .u32 l, .int .i64 0, .int .u32 256]
  have hSp : Sp w.heap.size (.slice A (code ts).length c) (.int .i64 0) (.int .i32 2) (.slice (some ⟨ri, 0, none⟩) 1 c1) (.slice (some ⟨ro, 0, none⟩) 1 c2) (.int .u32 l) (.int .i64 0) (.int .u32 256) _ :=
    ⟨hT.cell 0, hT.cell 1, hT.cell 2, hT.cell 3, hT.cell 4, hT.cell 5, hT.cell 6, hT.cell 7⟩
  have hw : w.heap.size ≤ (w.alloc (.cells #[.slice A (code ts).length c, .int .i64 0, .int .i32 2, .slice (some ⟨ri, 0, none⟩) 1 c1, .slice (some ⟨ro, 0, none⟩) 1 c2, .int .u32 l, .int .i64 0, .int .u32 256] 40)).heap.size := by simp
  clear hT hrd hri hro
  go_enter Tryz.func13, Tryz.ntmps13
  go_wp2_with fail
  generalize w.alloc (.cells #[.slice A (code ts).length c, .int .i64 0, .int .i32 2, .slice (some ⟨ri, 0, none⟩) 1 c1, .slice (some ⟨ro, 0, none⟩) 1 c2, .int .u32 l, .int .i64 0, .int .u32 256] 40) = W at *
  have hf0 : Below w.heap.size w W.drew := ⟨hb.os, hb.tape, hb.output, hb.size, hb.block⟩
  generalize hT : w.heap.size = T at *
  have hSd : Sp T (.slice A (code ts).length c) (.int .i64 0) (.int .i32 2) (.slice (some ⟨ri, 0, none⟩) 1 c1) (.slice (some ⟨ro, 0, none⟩) 1 c2) (.int .u32 l) (.int .i64 0) (.int .u32 256) W.drew := hSp
  have hN : Hid ((code ts).length ≤ 1000000000) := show (code ts).length ≤ 1000000000 by omega
  have HTX := Lib.hid hTx
  have a0 := hSp
  obtain ⟨k0, k1, k2, k3, k4, k5, k6, k7⟩ := a0
  have hSW := Lib.hid hSp
  have hSD := Lib.hid hSd
  clear hSp hSd hTx
  go_region_held3 (fun w' => w'.cell? ⟨T, 0, none⟩ = some (.slice A (code ts).length c) ∧ w'.cell? ⟨T, 1, none⟩ = some (.int .i64 0) ∧ w'.cell? ⟨T, 2, none⟩ = some (.int .i32 2) ∧ w'.cell? ⟨T, 3, none⟩ = some (.slice (some ⟨ri, 0, none⟩) 1 c1) ∧
      w'.cell? ⟨T, 4, none⟩ = some (.slice (some ⟨ro, 0, none⟩) 1 c2) ∧ w'.cell? ⟨T, 5, none⟩ = some (.int .u32 l) ∧ w'.cell? ⟨T, 6, none⟩ = some (.int .i64 0) ∧ w'.cell? ⟨T, 7, none⟩ = some (.int .u32 256))
    ((first | exact hSD.out | exact hSW.out | exact Sp.keep (by assumption) (by assumption)))
    (first
      | (go_at_call 23
         refine (copied_any W.drew 0 (code ts).length c A (code ts) (show Rd 0 W.drew _ _ from H.out) hN.out).mono ?_
         rintro e w1 ⟨A', c', rfl, ho, hb1⟩
         have P1 := Lib.hid (Rd.of_own (B := 0) ho (by decide))
         have H1 := Lib.hid (Rd.below (w := W.drew) (show Rd 0 W.drew _ _ from H.out) hb1)
         have R1 := Lib.hid (Blk.step (w := W.drew) (show Blk W.drew _ _ _ from HRI.out) hb1)
         have O1 := Lib.hid (Blk.step (w := W.drew) (show Blk W.drew _ _ _ from HRO.out) hb1)
         have F1 := Lib.hid (Below.trans' hf0 hw (Below.lower hb1 hw))
         have Z1 : T ≤ w1.heap.size := Nat.le_trans hw hb1.size
         clear ho)
      | (go_at_call 24
         refine (HTX.out _ ri ro c1 c2 2 l R1.out O1.out).mono ?_
         rintro e w2 ⟨tb, ib, rn, rc, As, cs1, txo, rfl, q1, q2, q3, q4, q5, hb2⟩
         have P2 := Lib.hid (P1.out.below hb2)
         have H2 := Lib.hid (H1.out.below hb2)
         have F2 := Lib.hid (Below.trans' F1.out Z1 (Below.lower hb2 Z1))
         have Z2 : T ≤ w2.heap.size := Nat.le_trans Z1 hb2.size
         have Q1 := Lib.hid q1
         have Q2 := Lib.hid q2
         have Q3 := Lib.hid q3
         have Q4 := Lib.hid q4
         have Q5 := Lib.hid q5
         clear q1 q2 q3 q4 q5)
      | (go_at_call 25
         refine (fetcher_any _ A (code ts).length c (code ts) 0 _ _ _ _ _ _ H2.out hN.out).mono ?_
         rintro e w3 ⟨⟨x, rfl⟩, hb3⟩
         have P3 := Lib.hid (P2.out.below hb3)
         have F3 := Lib.hid (Below.trans' F2.out Z2 (Below.lower hb3 Z2))
         have Z3 : T ≤ w3.heap.size := Nat.le_trans Z2 hb3.size
         have Q31 := Lib.hid (Blk.step Q1.out hb3)
         have Q33 := Lib.hid (cell_below hb3 Q3.out)
         have Q34 := Lib.hid (cell_below hb3 Q4.out)
         have Q35 := Lib.hid (cell_below hb3 Q5.out))
      | (go_at_call 22
         refine (newEngine_min _ tb ib 0 (code ts).length c' cs1 rn rc 256 0 _ x A' As ts 2 0 l txo #[] flags256 P3.out HTS.out hpos.out hn Q31.out Q2.out Q33.out Q34.out).mono ?_
         rintro e w4 ⟨g, sb, rfl, hg, hsb, hgs, hblk, hrow, hb4⟩
         have P4 := Lib.hid (P3.out.below hb4)
         have F4 := Lib.hid (Below.trans' F3.out Z3 (Below.lower hb4 Z3))
         have G4 := Lib.hid hg
         have B4 := Lib.hid hblk
         have L4 := Lib.hid hb4.size
         have Q43 := Lib.hid (cell_below hb4 Q33.out)
         have Q45 := Lib.hid (cell_below hb4 Q35.out)
         have N3 := Lib.hid (World.block_lt_of_cell? _ _ Q33.out)
         have N5 := Lib.hid (World.block_lt_of_cell? _ _ Q35.out)
         clear hg hsb hgs hblk hrow))
  go_wp2
  go_ret2
  obtain ⟨b', o', rfl, -⟩ := P4.out.cell (j := 0) hpos.out
  have g4 : w3.heap.size ≤ g := G4.out
  have l4 : w3.heap.size ≤ w4.heap.size := L4.out
  refine ⟨g, ⟨w4.heap.size, fun _ => False⟩, sb, b', o', _, c', _, rfl, ⟨B4.out, ⟨Nat.le_refl _, fun _ h => h.elim⟩, fun _ _ _ _ h => h, none, 0, [], rfl, ⟨rfl, .inl ⟨rfl, rfl⟩⟩, RdL.nil⟩, ?_, hn, P4.out, rfl, rfl, rfl, rfl, by rw [hT]; exact F4.out, by rw [hT]; omega, by rw [hT]; (try dsimp only); omega, rfl⟩
  exact { c6 := rfl, c7 := rfl, c11 := rfl, c12 := rfl, c13 := rfl, c14 := ⟨_, rfl⟩, c15 := rfl, c16 := ⟨_, rfl⟩, c17 := rfl, c18 := rfl, c19 := ⟨_, rfl⟩, c20 := ⟨_, rfl⟩, c21 := rfl, c24 := ⟨_, rfl⟩, c25 := rfl, c27 := rfl, c28 := rfl, c30 := rfl, c32 := rfl }
end Go.Proofs.YtdhbhbkgjdamoaaGreatDoor
