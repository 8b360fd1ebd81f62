/- awakeRun: the machine runs a true script and refuses a false one. How long lists of bytes are together. Lists of bytes, measured and compared. The law's measures of a transaction's parts: each tells some truth (printed by gen_fits.py). -/
import Derived.Test.YtkgihpebghmnbaaGreatDoorG39
import Derived.Test.YtkgihpebghmnbaaGreatDoorG22
import Derived.Test.YtkgihpebghmnbaaGreatDoorG02
import Derived.Test.YtkgihpebghmnbaaGreatDoorG18
import Derived.Deep.RegionHeld3
import Derived.Test.YtkgihpebghmnbaaGreatDoorTxf
namespace Go.Proofs.YtkgihpebghmnbaaGreatDoor
open Go.RowKit Go.Proofs

set_option maxRecDepth 100000

theorem flags0 : Flags 0 := ⟨by decide, by decide, by decide, by decide, by decide⟩

set_option maxHeartbeats 2000000 in
theorem engine_zero (inC : Array Value) (hTx : TxSaid inC) (w : World) (A : Option Addr) (n c ri ro c1 c2 l : Nat) (ts : List Tok) (hts : ∀ t ∈ ts, TokS t) (hp0 : 0 < (code ts).length) (hrd : Rd 0 w (.slice A n c) (code ts)) (hn : n ≤ 10000)
    (hri : Blk w ri 43 inC) (hro : Blk w ro 34 #[.int .i64 1, .slice none 0 0]) :
    Calls Tryz.prog 22 #[.agg #[.slice A n c, .int .i64 0, .int .i32 2, .slice (some ⟨ri, 0, none⟩) 1 c1, .slice (some ⟨ro, 0, none⟩) 1 c2, .int .u32 l, .int .i64 0, .int .u32 0]] w (EngP w (code ts) false 0) := by
  have hl1 := hrd.len.1
  subst hl1
  have hpos := Lib.hid hp0
  have HTS := Lib.hid hts
  clear hp0 hts
  have hb : Below w.heap.size w (w.alloc (.cells #[.slice A (code ts).length c, .int .i64 0, .int .i32 2, .slice (some ⟨ri, 0, none⟩) 1 c1, .slice (some ⟨ro, 0, none⟩) 1 c2, .int .u32 l, .int .i64 0, .int .u32 0] 48)) := (Below.refl _ _).alloc (Nat.le_refl _) _
  have H := Lib.hid (hrd.below hb)
  have HRI := Lib.hid (hri.below hb hri.lt)
  have HRO := Lib.hid (hro.below hb hro.lt)
  have hT := Blk.new w 48 #[.slice A (code ts).length c, .int .i64 0, .int .i32 2, .slice (some ⟨ri, 0, none⟩) 1 c1, .slice (some ⟨ro, 0, none⟩) 1 c2, .int .u32 l, .int .i64 0, .int .u32 0]
  have hSp : Sp w.heap.size (.slice A (code ts).length c) (.int .i64 0) (.int .i32 2) (.slice (some ⟨ri, 0, none⟩) 1 c1) (.slice (some ⟨ro, 0, none⟩) 1 c2) (.int .u32 l) (.int .i64 0) (.int .u32 0) _ :=
    ⟨hT.cell 0, hT.cell 1, hT.cell 2, hT.cell 3, hT.cell 4, hT.cell 5, hT.cell 6, hT.cell 7⟩
  have hw : w.heap.size ≤ (w.alloc (.cells #[.slice A (code ts).length c, .int .i64 0, .int .i32 2, .slice (some ⟨ri, 0, none⟩) 1 c1, .slice (some ⟨ro, 0, none⟩) 1 c2, .int .u32 l, .int .i64 0, .int .u32 0] 48)).heap.size := by simp
  clear hT hrd hri hro
  go_enter Tryz.func22, Tryz.ntmps22
  go_wp2_with fail
  generalize w.alloc (.cells #[.slice A (code ts).length c, .int .i64 0, .int .i32 2, .slice (some ⟨ri, 0, none⟩) 1 c1, .slice (some ⟨ro, 0, none⟩) 1 c2, .int .u32 l, .int .i64 0, .int .u32 0] 48) = W at *
  have hf0 : Below w.heap.size w W.drew := ⟨hb.os, hb.tape, hb.output, hb.size, hb.block⟩
  generalize hT : w.heap.size = T at *
  have hSd : Sp T (.slice A (code ts).length c) (.int .i64 0) (.int .i32 2) (.slice (some ⟨ri, 0, none⟩) 1 c1) (.slice (some ⟨ro, 0, none⟩) 1 c2) (.int .u32 l) (.int .i64 0) (.int .u32 0) W.drew := hSp
  have hN : Hid ((code ts).length ≤ 1000000000) := show (code ts).length ≤ 1000000000 by omega
  have HTX := Lib.hid hTx
  have a0 := hSp
  obtain ⟨k0, k1, k2, k3, k4, k5, k6, k7⟩ := a0
  have hSW := Lib.hid hSp
  have hSD := Lib.hid hSd
  clear hSp hSd hTx
  go_region_held3 (fun w' => w'.cell? ⟨T, 0, none⟩ = some (.slice A (code ts).length c) ∧ w'.cell? ⟨T, 1, none⟩ = some (.int .i64 0) ∧ w'.cell? ⟨T, 2, none⟩ = some (.int .i32 2) ∧ w'.cell? ⟨T, 3, none⟩ = some (.slice (some ⟨ri, 0, none⟩) 1 c1) ∧
      w'.cell? ⟨T, 4, none⟩ = some (.slice (some ⟨ro, 0, none⟩) 1 c2) ∧ w'.cell? ⟨T, 5, none⟩ = some (.int .u32 l) ∧ w'.cell? ⟨T, 6, none⟩ = some (.int .i64 0) ∧ w'.cell? ⟨T, 7, none⟩ = some (.int .u32 0))
    ((first | exact hSD.out | exact hSW.out | exact Sp.keep (by assumption) (by assumption)))
    (first
      | (go_at_call 18
         refine (copied_any W.drew 0 (code ts).length c A (code ts) (show Rd 0 W.drew _ _ from H.out) hN.out).mono ?_
         rintro e w1 ⟨A', c', rfl, ho, hb1⟩
         have P1 := Lib.hid (Rd.of_own (B := 0) ho (by decide))
         have H1 := Lib.hid (Rd.below (w := W.drew) (show Rd 0 W.drew _ _ from H.out) hb1)
         have R1 := Lib.hid (Blk.step (w := W.drew) (show Blk W.drew _ _ _ from HRI.out) hb1)
         have O1 := Lib.hid (Blk.step (w := W.drew) (show Blk W.drew _ _ _ from HRO.out) hb1)
         have F1 := Lib.hid (Below.trans' hf0 hw (Below.lower hb1 hw))
         have Z1 : T ≤ w1.heap.size := Nat.le_trans hw hb1.size
         clear ho)
      | (go_at_call 19
         refine (HTX.out _ ri ro c1 c2 2 l R1.out O1.out).mono ?_
         rintro e w2 ⟨tb, ib, rn, rc, As, cs1, txo, rfl, q1, q2, q3, q4, q5, hb2⟩
         have P2 := Lib.hid (P1.out.below hb2)
         have H2 := Lib.hid (H1.out.below hb2)
         have F2 := Lib.hid (Below.trans' F1.out Z1 (Below.lower hb2 Z1))
         have Z2 : T ≤ w2.heap.size := Nat.le_trans Z1 hb2.size
         have Q1 := Lib.hid q1
         have Q2 := Lib.hid q2
         have Q3 := Lib.hid q3
         have Q4 := Lib.hid q4
         have Q5 := Lib.hid q5
         clear q1 q2 q3 q4 q5)
      | (go_at_call 33
         refine (fetcher_any _ A (code ts).length c (code ts) 0 _ _ _ _ _ _ H2.out hN.out).mono ?_
         rintro e w3 ⟨⟨x, rfl⟩, hb3⟩
         have P3 := Lib.hid (P2.out.below hb3)
         have F3 := Lib.hid (Below.trans' F2.out Z2 (Below.lower hb3 Z2))
         have Z3 : T ≤ w3.heap.size := Nat.le_trans Z2 hb3.size
         have Q31 := Lib.hid (Blk.step Q1.out hb3)
         have Q33 := Lib.hid (cell_below hb3 Q3.out)
         have Q34 := Lib.hid (cell_below hb3 Q4.out)
         have Q35 := Lib.hid (cell_below hb3 Q5.out))
      | (go_at_call 32
         refine (newEngine_any _ tb ib 0 (code ts).length c' cs1 rn rc 0 0 _ x A' As ts 2 0 l txo #[] flags0 P3.out HTS.out hpos.out hn Q31.out Q2.out Q33.out Q34.out).mono ?_
         rintro e w4 ⟨g, sb, rfl, hg, hsb, hgs, hblk, hrow, hb4⟩
         have P4 := Lib.hid (P3.out.below hb4)
         have F4 := Lib.hid (Below.trans' F3.out Z3 (Below.lower hb4 Z3))
         have G4 := Lib.hid hg
         have B4 := Lib.hid hblk
         have L4 := Lib.hid hb4.size
         have Q43 := Lib.hid (cell_below hb4 Q33.out)
         have Q45 := Lib.hid (cell_below hb4 Q35.out)
         have N3 := Lib.hid (World.block_lt_of_cell? _ _ Q33.out)
         have N5 := Lib.hid (World.block_lt_of_cell? _ _ Q35.out)
         clear hg hsb hgs hblk hrow))
  go_wp2
  go_ret2
  obtain ⟨b', o', rfl, -⟩ := P4.out.cell (j := 0) hpos.out
  have g4 : w3.heap.size ≤ g := G4.out
  have l4 : w3.heap.size ≤ w4.heap.size := L4.out
  refine ⟨g, ⟨w4.heap.size, fun _ => False⟩, sb, b', o', _, c', _, rfl, ⟨B4.out, ⟨Nat.le_refl _, fun _ h => h.elim⟩, fun _ _ _ _ h => h, none, 0, [], rfl, ⟨rfl, .inl ⟨rfl, rfl⟩⟩, RdL.nil⟩, ?_, hn, P4.out, rfl, rfl, rfl, rfl, by rw [hT]; exact F4.out, by rw [hT]; omega, by rw [hT]; (try dsimp only); omega, rfl⟩
  exact { c6 := rfl, c7 := rfl, c11 := rfl, c12 := rfl, c13 := rfl, c14 := rfl, c15 := rfl, c16 := ⟨_, rfl⟩, c17 := rfl, c18 := rfl, c19 := ⟨_, rfl⟩, c20 := ⟨_, rfl⟩, c21 := rfl, c24 := ⟨_, rfl⟩, c25 := rfl, c27 := rfl, c28 := rfl, c30 := rfl, c32 := rfl }

theorem execute_bool (v : Bool) {w : World} {g : Nat} {B : Bd} {sb pb po n c : Nat} {cs : Array Value} (_hn : n ≤ 10000)
    (hV : Vm w g B cs []) (hE : En cs sb 1 0 0 (.slice (some ⟨pb, po, none⟩) n c) 0 (-1)) (h0 : cs[0]? = some (.int .u32 0)) (h24 : cs[24]? = some (.bool false)) (h33 : cs[33]? = some .nilFunc)
    (hrd : Rd 0 w (.slice (some ⟨pb, po, none⟩) n c) (code [pushT (boolB v)])) :
    Calls Tryz.prog 23 #[.pointer (some ⟨g, 0, none⟩)] w fun e w' => ∃ r, e = .returned r ∧ Ret r ∧ SigR g B w v r w' := by
  have hn1 : n = 1 := by rw [hrd.len.1]; cases v <;> rfl
  have hl : (pushT (boolB v)).enc.length = 1 := by cases v <;> rfl
  have hbl : (boolB v).length ≤ 1 := by cases v <;> decide
  have hgo : Goes g (SigR g B w v) 1 w := by
    obtain ⟨nm, dA, dc, i⟩ := stepIn_tok (t := pushT (boolB v)) (rest := []) (xs1 := [boolB v]) (G := True) (F := False) (k' := 0) hV hE (by omega) (by omega) (by omega) (by simp) hrd
      (by simp [code]) (tokS_pushT _ (by omega)) (by omega) (by omega)
      (fun dA dc w1 cs1 hr hv1 he1 hk1 _ hob _ => push_gen (xss := []) _ (by omega) false hv1 he1 ((hk1 24 (by omega)).trans h24) (by simp) hob rfl hr)
    refine goes_end i (by omega) h33 ?_ (fun _ _ _ _ hF _ _ => hF.elim)
    intro w3 cs3 _ hv3 h12 hk3 hf3
    refine (check_v w3 g B sb 0 cs3 [] v hv3 (by simp) ((hk3 0 (by omega)).trans h0) (by decide) ((hk3 30 (by omega)).trans hE.c30) ((hk3 32 (by omega)).trans hE.c32) ((hk3 11 (by omega)).trans hE.c11) h12).mono ?_
    rintro e w4 ⟨r, rfl, hr, cs4, hv4, hk4, hf4⟩
    refine ⟨r, rfl, ?_, hr, hf3.trans hf4, cs4, hv4⟩
    rcases hr with ⟨rfl, -⟩ | ⟨h, -⟩
    · exact .inl rfl
    · exact .inr h
  refine (execute_goes w g 1 _ hgo hV.blk.lt ((hV.blk.cell 6).trans hE.c6) ((hV.blk.cell 33).trans h33)).mono ?_
  rintro e w' h
  exact h

theorem run_bool (w : World) (v : Bool) (c0 c1 c2 c3 c4 c5 c6 c7 : Value)
    (hone : ∀ v ∈ [c0, c1, c2, c3, c4, c5, c6, c7], v.oneCell' = true)
    (hE : Calls Tryz.prog 22 #[.agg #[c0, c1, c2, c3, c4, c5, c6, c7]] (w.alloc (.cells #[c0, c1, c2, c3, c4, c5, c6, c7] 48)) (EngP (w.alloc (.cells #[c0, c1, c2, c3, c4, c5, c6, c7] 48)) (code [pushT (boolB v)]) false 0)) :
    Calls Tryz.prog 10 #[.agg #[c0, c1, c2, c3, c4, c5, c6, c7]] w (RunS w v) := by
  refine run_of w v c0 c1 c2 c3 c4 c5 c6 c7 hone _ hE ?_
  rintro e w1 ⟨g, B, sb, pb, po, n, c, cs, rfl, hv, he, hn, hrd, h0, h24, -, h33, hb, hg, hB, -⟩
  exact ⟨g, B, rfl, execute_bool v hn hv he h0 h24 h33 hrd, hb, hg, hB⟩

theorem paid_any (w : World) (A : Option Addr) (n c : Nat) :
    Calls Tryz.prog 15 #[.slice A n c, .slice none 0 0, .slice none 0 0, .int .u32 0] w fun e w' => ∃ ri ro, e = .returned (.agg #[.slice A n c, .int .i64 0, .int .i32 2, .slice (some ⟨ri, 0, none⟩) 1 1, .slice (some ⟨ro, 0, none⟩) 1 1, .int .u32 100, .int .i64 0, .int .u32 0]) ∧
      Blk w' ri 43 inCells.toArray ∧ Blk w' ro 34 #[.int .i64 1, .slice none 0 0] ∧ Below w.heap.size w w' := by
  go_enter Tryz.func15, Tryz.ntmps15
  go_wp2_with (refine wpList_build 43 _ rfl rfl (.agg inCells.toArray) (by kernel_rfl) ?_; refine Stop.mk ?_)
  refine Stop.go ?_
  generalize hW : w.alloc (.cells #[.slice none 0 0, .int .i64 0, .int .i32 0, .slice none 0 0, .slice none 0 0, .int .u32 0, .int .i64 0, .int .u32 0] 48) = W1
  refine wpList_buildSlice 23 1 _ rfl rfl (.slice (some ⟨W1.heap.size, 0, none⟩) 1 1) (w' := W1.alloc (.cells inCells.toArray 43)) (by kernel_rfl) ?_
  go_upto_region 2 with fail
  have hs1 : W1.heap.size = w.heap.size + 1 := by rw [← hW]; simp
  have hB1 : Blk W1 w.heap.size 48 #[.slice none 0 0, .int .i64 0, .int .i32 0, .slice none 0 0, .slice none 0 0, .int .u32 0, .int .i64 0, .int .u32 0] := by rw [← hW]; exact Blk.new w _ _
  have hb1 : Below w.heap.size w W1 := by rw [← hW]; exact (Below.refl _ _).alloc (Nat.le_refl _) _
  clear hW
  have hri := ((Blk.new W1 43 inCells.toArray).alloc (.cells #[.int .i64 1, .slice none 0 0] 34)).alloc (.cells #[.int .i32 2, .slice (some ⟨W1.heap.size, 0, none⟩) 1 1, .slice (some ⟨W1.heap.size + 1, 0, none⟩) 1 1, .int .u32 100] 27)
  have hro := (Blk.new (W1.alloc (.cells inCells.toArray 43)) 34 #[.int .i64 1, .slice none 0 0]).alloc (.cells #[.int .i32 2, .slice (some ⟨W1.heap.size, 0, none⟩) 1 1, .slice (some ⟨W1.heap.size + 1, 0, none⟩) 1 1, .int .u32 100] 27)
  have hx := Blk.new ((W1.alloc (.cells inCells.toArray 43)).alloc (.cells #[.int .i64 1, .slice none 0 0] 34)) 27 #[.int .i32 2, .slice (some ⟨W1.heap.size, 0, none⟩) 1 1, .slice (some ⟨W1.heap.size + 1, 0, none⟩) 1 1, .int .u32 100]
  have hB4 := ((hB1.alloc (.cells inCells.toArray 43)).alloc (.cells #[.int .i64 1, .slice none 0 0] 34)).alloc (.cells #[.int .i32 2, .slice (some ⟨W1.heap.size, 0, none⟩) 1 1, .slice (some ⟨W1.heap.size + 1, 0, none⟩) 1 1, .int .u32 100] 27)
  have hle : w.heap.size ≤ W1.heap.size := hb1.size
  have hb4 : Below w.heap.size w (((W1.alloc (.cells inCells.toArray 43)).alloc (.cells #[.int .i64 1, .slice none 0 0] 34)).alloc (.cells #[.int .i32 2, .slice (some ⟨W1.heap.size, 0, none⟩) 1 1, .slice (some ⟨W1.heap.size + 1, 0, none⟩) 1 1, .int .u32 100] 27)) := ((hb1.alloc hle _).alloc (by simp; omega) _).alloc (by simp; omega) _
  have e1 : (W1.alloc (.cells inCells.toArray 43)).heap.size = W1.heap.size + 1 := by simp
  have e2 : ((W1.alloc (.cells inCells.toArray 43)).alloc (.cells #[.int .i64 1, .slice none 0 0] 34)).heap.size = W1.heap.size + 1 + 1 := by simp
  rw [e1] at hro
  rw [e2] at hx
  clear e1 e2 hb1 hB1
  generalize hW4 : ((W1.alloc (.cells inCells.toArray 43)).alloc (.cells #[.int .i64 1, .slice none 0 0] 34)).alloc (.cells #[.int .i32 2, .slice (some ⟨W1.heap.size, 0, none⟩) 1 1, .slice (some ⟨W1.heap.size + 1, 0, none⟩) 1 1, .int .u32 100] 27) = W4 at *
  clear hW4
  generalize W1.heap.size + 1 + 1 = tx at *
  generalize W1.heap.size + 1 = ro at *
  generalize W1.heap.size = ri at *
  have hriT : ¬ M1 w.heap.size ri := Blk.ne_ hri hB4 (by decide)
  have hroT : ¬ M1 w.heap.size ro := Blk.ne_ hro hB4 (by decide)
  generalize hTT : w.heap.size = T at *
  have hst := storeAt_row (P := Tryz.prog) W4 T 48 48 _ #[.slice A n c, .int .i64 0, .int .i32 2, .slice (some ⟨ri, 0, none⟩) 1 1, .slice (some ⟨ro, 0, none⟩) 1 1, .int .u32 100, .int .i64 0, .int .u32 0] hB4 info_spend rfl (by simp [Value.oneCell'])
  have HB5 := Lib.hid (hB4.setRow #[.slice A n c, .int .i64 0, .int .i32 2, .slice (some ⟨ri, 0, none⟩) 1 1, .slice (some ⟨ro, 0, none⟩) 1 1, .int .u32 100, .int .i64 0, .int .u32 0])
  have hf : Fm (M1 T) W4 (W4.setRow T #[.slice A n c, .int .i64 0, .int .i32 2, .slice (some ⟨ri, 0, none⟩) 1 1, .slice (some ⟨ro, 0, none⟩) 1 1, .int .u32 100, .int .i64 0, .int .u32 0]) := (Fm.refl _ _).setRow _
  have HRI := Lib.hid (Blk.fm hri hf hriT)
  have HRO := Lib.hid (Blk.fm hro hf hroT)
  have hTl := hB4.lt
  have HBL : Hid (Below T w (W4.setRow T #[.slice A n c, .int .i64 0, .int .i32 2, .slice (some ⟨ri, 0, none⟩) 1 1, .slice (some ⟨ro, 0, none⟩) 1 1, .int .u32 100, .int .i64 0, .int .u32 0])) := Below.fm hb4 hf (by omega) (fun k hk h => by have : k = T := h; omega)
  have x0 := hx.cell 0
  change _ = some (Value.int .i32 2) at x0
  have x1 := hx.cell 1
  change _ = some (Value.slice (some ⟨ri, 0, none⟩) 1 1) at x1
  have x2 := hx.cell 2
  change _ = some (Value.slice (some ⟨ro, 0, none⟩) 1 1) at x2
  have x3 := hx.cell 3
  change _ = some (Value.int .u32 100) at x3
  clear hf hri hro hb4 hs1
  go_wp2_with (refine wpList_skip rfl rfl (exec_store 48 (.tmp 8) (.tmp 20) rfl rfl rfl hst) ?_; refine Stop.mk ?_)
  refine Stop.go ?_
  go_wp2
  exact bodyPost_ret (v := .agg #[.slice A n c, .int .i64 0, .int .i32 2, .slice (some ⟨ri, 0, none⟩) 1 1, .slice (some ⟨ro, 0, none⟩) 1 1, .int .u32 100, .int .i64 0, .int .u32 0]) (results_cell_row rfl _ _ T _ _ _ _ rfl HB5.out Tryz.underlying48 rfl info_spend) rfl ⟨ri, ro, rfl, HRI.out, HRO.out, by rw [hTT]; exact HBL.out⟩

theorem awake_any (w : World) : Calls Tryz.prog 5 #[] w fun e w' => e = .returned (.bool true) ∧ Below w.heap.size w w' := by
  have hb0 : Below w.heap.size w (w.alloc (.cells #[.int .u8 81] 5)) := (Below.refl _ _).alloc (Nat.le_refl _) _
  have hr0 : Rd 0 (w.alloc (.cells #[.int .u8 81] 5)) (.slice (some ⟨w.heap.size, 0, none⟩) 1 1) (code [pushT (boolB true)]) := rd_blk (bs := [81]) (Blk.new w 5 #[.int .u8 81]) rfl (by decide)
  have HB0 := Lib.hid hb0
  have HR0 := Lib.hid hr0
  clear hb0 hr0
  go_enter Tryz.func5, Tryz.ntmps5
  go_wp2_with fail
  generalize w.alloc (.cells #[.int .u8 81] 5) = W at *
  refine (paid_any W _ 1 1).mono ?_
  rintro e w1 ⟨ri, ro, rfl, hi, ho, hb1⟩
  have hal : ∀ o, Below w1.heap.size w1 (w1.alloc o) := fun o => (Below.refl _ _).alloc (Nat.le_refl _) o
  have HX := Lib.hid (run_bool w1 true _ _ _ _ _ _ _ _ (by intro v hv; simp at hv; rcases hv with rfl | rfl | rfl | rfl | rfl | rfl | rfl | rfl <;> rfl)
    (engine_zero inCells.toArray tx_said _ (some ⟨w.heap.size, 0, none⟩) 1 1 ri ro 1 1 100 [pushT (boolB true)] (by intro t ht; rw [List.mem_singleton] at ht; subst ht; exact tokS_pushT _ (by decide)) (by decide) ((HR0.out.below hb1).below (hal _)) (by omega) (hi.below (hal _) hi.lt) (ho.below (hal _) ho.lt)))
  have HB1 := Lib.hid (Below.trans' HB0.out HB0.out.size (Below.lower hb1 HB0.out.size))
  clear hi ho hb1 hal HR0 HB0
  go_wp2_with fail
  refine HX.out.mono ?_
  rintro e w2 ⟨k, Ak, nk, ck, rfl, hk0, hk1, hk2, hb2⟩
  have hkz : k = 0 := hk2.2 rfl
  subst hkz
  have HB2 := Lib.hid (Below.trans' HB1.out HB1.out.size (Below.lower hb2 HB1.out.size))
  clear hb2 HX HB1 hk0 hk1 hk2
  have hb3 : Below w2.heap.size w2 (w2.alloc (.cells #[.int .u8 0] 5)) := (Below.refl _ _).alloc (Nat.le_refl _) _
  have hr3 : Rd 0 (w2.alloc (.cells #[.int .u8 0] 5)) (.slice (some ⟨w2.heap.size, 0, none⟩) 1 1) (code [pushT (boolB false)]) := rd_blk (bs := [0]) (Blk.new w2 5 #[.int .u8 0]) rfl (by decide)
  have HB3 := Lib.hid (Below.trans' HB2.out HB2.out.size (Below.lower hb3 HB2.out.size))
  have HR3 := Lib.hid hr3
  clear hb3 hr3
  go_wp2_with fail
  generalize w2.alloc (.cells #[.int .u8 0] 5) = W3 at *
  refine (paid_any W3 _ 1 1).mono ?_
  rintro e w4 ⟨ri, ro, rfl, hi, ho, hb4⟩
  have hal : ∀ o, Below w4.heap.size w4 (w4.alloc o) := fun o => (Below.refl _ _).alloc (Nat.le_refl _) o
  have HX := Lib.hid (run_bool w4 false _ _ _ _ _ _ _ _ (by intro v hv; simp at hv; rcases hv with rfl | rfl | rfl | rfl | rfl | rfl | rfl | rfl <;> rfl)
    (engine_zero inCells.toArray tx_said _ (some ⟨w2.heap.size, 0, none⟩) 1 1 ri ro 1 1 100 [pushT (boolB false)] (by intro t ht; rw [List.mem_singleton] at ht; subst ht; exact tokS_pushT _ (by decide)) (by decide) ((HR3.out.below hb4).below (hal _)) (by omega) (hi.below (hal _) hi.lt) (ho.below (hal _) ho.lt)))
  have HB4 := Lib.hid (Below.trans' HB3.out HB3.out.size (Below.lower hb4 HB3.out.size))
  clear hi ho hb4 hal HR3 HB3
  go_wp2_with fail
  refine HX.out.mono ?_
  rintro e w5 ⟨k, Ak', nk', ck', rfl, hk0, hk1, hk2, hb5⟩
  have hkz : ¬ k = 0 := fun h => by have := hk2.1 h; cases this
  have hkz' : (k == 0) = false := by simpa using hkz
  have HB5 := Lib.hid (Below.trans' HB4.out HB4.out.size (Below.lower hb5 HB4.out.size))
  clear hb5 HX HB4 hk2
  have hkn : (k != 0) = true := by simp [bne, hkz']
  go_wp2
  go_ret
  exact ⟨rfl, HB5.out⟩
end Go.Proofs.YtkgihpebghmnbaaGreatDoor

namespace Go.Proofs.YtkgihpebghmnbaaGreatDoor

/-- How long they are together. -/
def szs (xss : List (List UInt8)) : Nat := (xss.map List.length).sum
theorem szs_nil : szs [] = 0 := rfl
theorem szs_cons (x : List UInt8) (xss : List (List UInt8)) : szs (x :: xss) = x.length + szs xss := by simp [szs]
theorem szs_append (a b : List (List UInt8)) : szs (a ++ b) = szs a + szs b := by simp [szs]
theorem szs_mem {x : List UInt8} {xss : List (List UInt8)} (h : x ∈ xss) : x.length ≤ szs xss := by
  induction xss with
  | nil => cases h
  | cons a l ih =>
    rw [szs_cons]
    rcases List.mem_cons.1 h with rfl | h
    · omega
    · have := ih h
      omega
theorem szs_take (xss : List (List UInt8)) (i : Nat) : szs (xss.take i) ≤ szs xss := by
  have h : szs (xss.take i ++ xss.drop i) = szs xss := by rw [List.take_append_drop]
  rw [szs_append] at h
  omega
theorem szs_take_succ {xss : List (List UInt8)} {i : Nat} {x : List UInt8} (h : xss[i]? = some x) : szs (xss.take (i + 1)) = szs (xss.take i) + x.length := by
  rw [List.take_add_one, h, szs_append]
  simp [szs]
end Go.Proofs.YtkgihpebghmnbaaGreatDoor

namespace Go.Proofs.YtkgihpebghmnbaaGreatDoor
open Go.RowKit Go.Proofs

set_option maxRecDepth 100000

theorem same_any (w : World) (B1 B2 : Nat) (va vb : Value) (xs : List UInt8) (ha : Rd B1 w va xs) (hb : Rd B2 w vb xs) (hl : xs.length ≤ 10000000) :
    Calls Tryz.prog 11 #[va, vb] w fun e w' => e = .returned (.bool true) ∧ Below w.heap.size w w' := by
  obtain ⟨A, c, rfl, -⟩ := ha.slice
  obtain ⟨A', c', rfl, -⟩ := hb.slice
  have HA := Lib.hid ha
  have HB := Lib.hid hb
  clear ha hb
  obtain ⟨n, hn⟩ : ∃ n, xs.length = n := ⟨_, rfl⟩
  rw [hn] at HA HB hl ⊢
  go_enter Tryz.func11, Tryz.ntmps11
  go_wp2_with fail
  go_loopg [5] (n + 1) (fun k s wx => Below w.heap.size w wx ∧ ∃ i : Nat, k = n - i + 1 ∧ i ≤ n ∧ s = .int .i64 i)
  case atStart => exact ⟨Below.refl _ _, 0, by simp, Nat.zero_le _, rfl⟩
  case round =>
    obtain ⟨hbl, i, rfl, hin, rfl⟩ := hrel
    have HBL := Lib.hid hbl
    clear hbl
    by_cases h0 : i = n
    · subst h0
      have hd : decide ((i : Int) < i) = false := by simp
      go_wp2
      go_ret
      exact ⟨rfl, HBL.out⟩
    · have h1 : (i : Int) < (n : Int) := by omega
      have h2 : (0 : Int) ≤ (i : Int) := by omega
      obtain ⟨b, o, rfl, hca⟩ := HA.out.cell (j := i) (by omega)
      obtain ⟨b', o', rfl, hcb⟩ := HB.out.cell (j := i) (by omega)
      have hca := cell_keep HBL.out hca
      have hcb := cell_keep HBL.out hcb
      go_wp2_with fail
      go_quiet (fail)
      go_wp2_with fail
      have hw1 : (i : Int) + 1 = ((i + 1 : Nat) : Int) := by omega
      go_roundg (n - (i + 1) + 1)
      case measure => omega
      case rel => exact ⟨⟨HBL.out.os, HBL.out.tape, HBL.out.output, HBL.out.size, HBL.out.block⟩, i + 1, rfl, by omega, by rw [← hw1]⟩

theorem fits5_any (w : World) (B : Nat) (A : Option Addr) (n c : Nat) (vs : List Value) (xss : List (List UInt8)) (hc : Cells w A n vs) (hr : RdL B w vs xss) (hs : szs xss + xss.length ≤ 1048576) :
    Calls Tryz.prog 39 #[.slice A n c] w fun e w' => e = .returned (.bool true) ∧ w = w' := by
  have hlen : xss.length = n := by rw [← hr.1, hc.1]
  have HC := Lib.hid hc
  have HR := Lib.hid hr
  have HX := Lib.hid (show ∀ xs ∈ xss, xs.length ≤ 1048576 from fun xs h => by have := szs_mem h; omega)
  have hn : ¬ (2147483647 < (n : Int)) := by omega
  clear hc hr hs
  go_enter Tryz.func39, Tryz.ntmps39
  go_wp2_with fail
  go_loopg [10, 4] (n + 1) (fun k s s4 wx => wx = w ∧ ∃ i : Nat, k = n - i + 1 ∧ i ≤ n ∧ s = .int .i64 i)
  case atStart => exact ⟨rfl, 0, by simp, Nat.zero_le _, rfl⟩
  case round =>
    obtain ⟨rfl, i, rfl, hin, rfl⟩ := hrel
    by_cases h0 : i = n
    · subst h0
      have hd : decide ((i : Int) < i) = false := by simp
      go_wp2
      go_ret
      exact ⟨rfl, rfl⟩
    · have h1 : (i : Int) < (n : Int) := by omega
      have h2 : (0 : Int) ≤ (i : Int) := by omega
      obtain ⟨b, o, rfl, hca⟩ := HC.out.2 (by omega)
      obtain ⟨v, hv⟩ : ∃ v, vs[i]? = some v := ⟨vs[i]'(by rw [HC.out.1]; omega), List.getElem?_eq_getElem _⟩
      obtain ⟨xs, hxs⟩ : ∃ xs, xss[i]? = some xs := ⟨xss[i]'(by omega), List.getElem?_eq_getElem _⟩
      obtain ⟨Av, cv, rfl, -⟩ := (HR.out.2 i v xs hv hxs).slice
      have hl := hca i _ hv
      have hxl := HX.out xs (List.mem_of_getElem? hxs)
      have hx1 : ¬ (2147483647 < (xs.length : Int)) := by omega
      clear hca hv hxs
      go_wp2_with fail
      have hw1 : (i : Int) + 1 = ((i + 1 : Nat) : Int) := by omega
      go_roundg (n - (i + 1) + 1)
      case measure => omega
      case rel => exact ⟨rfl, i + 1, rfl, by omega, by rw [← hw1]⟩
end Go.Proofs.YtkgihpebghmnbaaGreatDoor

namespace Go.Proofs.YtkgihpebghmnbaaGreatDoor
open Go.RowKit Go.Proofs

set_option maxRecDepth 100000

/-- Some truth. -/
def Tells (w : World) (e : Ending) (w' : World) : Prop := (∃ b, e = .returned (.bool b)) ∧ Below w.heap.size w w'

theorem info_iout : (Tryz.prog.info? 34).map (·.size) = some 2 := by kernel_rfl

theorem fits7_any (w : World) (v : Int) (A : Option Addr) (n c : Nat) : Calls Tryz.prog 28 #[.agg #[.int .i64 v, .slice A n c]] w (Tells w) := by
  have hb : Below w.heap.size w (w.alloc (.cells #[.int .i64 v, .slice A n c] 34)) := (Below.refl _ _).alloc (Nat.le_refl _) _
  by_cases h : (2147483647 : Int) < (n : Int)
  · go_enter Tryz.func28, Tryz.ntmps28
    go_wp2
    go_ret
    exact ⟨⟨_, rfl⟩, hb⟩
  · go_enter Tryz.func28, Tryz.ntmps28
    go_wp2
    go_ret
    exact ⟨⟨_, rfl⟩, hb⟩

theorem fits5b_any (w : World) (B : Nat) (A : Option Addr) (n c : Nat) (vs : List Value) (xss : List (List UInt8)) (hc : Cells w A n vs) (hr : RdL B w vs xss) :
    Calls Tryz.prog 39 #[.slice A n c] w (Tells w) := by
  have hlen : xss.length = n := by rw [← hr.1, hc.1]
  have HC := Lib.hid hc
  have HR := Lib.hid hr
  clear hc hr
  by_cases hn : (2147483647 : Int) < (n : Int)
  · go_enter Tryz.func39, Tryz.ntmps39
    go_wp2
    go_ret
    exact ⟨⟨_, rfl⟩, Below.refl _ _⟩
  go_enter Tryz.func39, Tryz.ntmps39
  go_wp2_with fail
  go_loopg [10, 4] (n + 1) (fun k s s4 wx => wx = w ∧ ∃ i : Nat, k = n - i + 1 ∧ i ≤ n ∧ s = .int .i64 i)
  case atStart => exact ⟨rfl, 0, by simp, Nat.zero_le _, rfl⟩
  case round =>
    obtain ⟨rfl, i, rfl, hin, rfl⟩ := hrel
    by_cases h0 : i = n
    · subst h0
      have hd : decide ((i : Int) < i) = false := by simp
      go_wp2
      go_ret
      exact ⟨⟨_, rfl⟩, Below.refl _ _⟩
    · have h1 : (i : Int) < (n : Int) := by omega
      have h2 : (0 : Int) ≤ (i : Int) := by omega
      obtain ⟨b, o, rfl, hca⟩ := HC.out.2 (by omega)
      obtain ⟨v, hv⟩ : ∃ v, vs[i]? = some v := ⟨vs[i]'(by rw [HC.out.1]; omega), List.getElem?_eq_getElem _⟩
      obtain ⟨xs, hxs⟩ : ∃ xs, xss[i]? = some xs := ⟨xss[i]'(by omega), List.getElem?_eq_getElem _⟩
      obtain ⟨Av, cv, rfl, -⟩ := (HR.out.2 i v xs hv hxs).slice
      have hl := hca i _ hv
      clear hca hv hxs
      by_cases hx1 : (2147483647 : Int) < (xs.length : Int)
      · go_wp2
        go_ret
        exact ⟨⟨_, rfl⟩, Below.refl _ _⟩
      · go_wp2_with fail
        have hw1 : (i : Int) + 1 = ((i + 1 : Nat) : Int) := by omega
        go_roundg (n - (i + 1) + 1)
        case measure => omega
        case rel => exact ⟨rfl, i + 1, rfl, by omega, by rw [← hw1]⟩

theorem fits4_any (w : World) (B : Nat) (x0 x1 x2 x3 x4 x5 x6 x7 x8 x9 x10 x11 x12 x13 x14 x15 x16 x17 x18 x19 x20 x21 x22 x23 x24 x25 x26 x27 x28 x29 x30 x31 : Value) (ix sq : Int) (As Aw : Option Addr) (ns cs nw cw : Nat) (wvs : List Value) (wit : List (List UInt8)) (hone : (#[x0, x1, x2, x3, x4, x5, x6, x7, x8, x9, x10, x11, x12, x13, x14, x15, x16, x17, x18, x19, x20, x21, x22, x23, x24, x25, x26, x27, x28, x29, x30, x31, .int .u32 ix, .slice As ns cs, .slice Aw nw cw, .int .u32 sq] : Array Value).all (·.oneCell') = true) (hc : Cells w Aw nw wvs) (hr : RdL B w wvs wit) :
    Calls Tryz.prog 27 #[.agg #[x0, x1, x2, x3, x4, x5, x6, x7, x8, x9, x10, x11, x12, x13, x14, x15, x16, x17, x18, x19, x20, x21, x22, x23, x24, x25, x26, x27, x28, x29, x30, x31, .int .u32 ix, .slice As ns cs, .slice Aw nw cw, .int .u32 sq]] w (Tells w) := by
  have hb : Below w.heap.size w (w.alloc (.cells #[x0, x1, x2, x3, x4, x5, x6, x7, x8, x9, x10, x11, x12, x13, x14, x15, x16, x17, x18, x19, x20, x21, x22, x23, x24, x25, x26, x27, x28, x29, x30, x31, .int .u32 ix, .slice As ns cs, .slice Aw nw cw, .int .u32 sq] 43)) := (Below.refl _ _).alloc (Nat.le_refl _) _
  have HB := Lib.hid hb
  have H5 := Lib.hid (fits5b_any _ B Aw nw cw wvs wit (hc.below hb) (hr.below hb))
  have HONE := Lib.hid hone
  clear hb hc hr hone
  by_cases h : (2147483647 : Int) < (ns : Int)
  · go_enter Tryz.func27, Tryz.ntmps27
    go_wp2
    go_ret
    exact ⟨⟨_, rfl⟩, HB.out⟩
  · go_enter Tryz.func27, Tryz.ntmps27
    go_wp2_with fail
    refine H5.out.mono ?_
    rintro e w1 ⟨⟨b, rfl⟩, hb1⟩
    have HB1 := Lib.hid (Below.trans' HB.out HB.out.size (Below.lower hb1 HB.out.size))
    clear hb1
    cases b
    · go_wp2
      go_ret
      exact ⟨⟨_, rfl⟩, HB1.out⟩
    · go_wp2
      go_ret
      exact ⟨⟨_, rfl⟩, HB1.out⟩

theorem fits6_any (w : World) (B : Nat) (A : Option Addr) (c : Nat) (outs : List TO) (hO : 0 < outs.length → ∃ b o, A = some ⟨b, o, none⟩ ∧ ∀ j q, outs[j]? = some q → SrcOut B w b (o + j * 2) q) :
    Calls Tryz.prog 14 #[.slice A outs.length c] w (Tells w) := by
  have HO := Lib.hid hO
  clear hO
  generalize hno : outs.length = n at *
  by_cases hn : (2147483647 : Int) < (n : Int)
  · go_enter Tryz.func14, Tryz.ntmps14
    go_wp2
    go_ret
    exact ⟨⟨_, rfl⟩, Below.refl _ _⟩
  go_enter Tryz.func14, Tryz.ntmps14
  go_wp2_with fail
  go_loopg [10, 4] (n + 1) (fun k s s4 wx => Below w.heap.size w wx ∧ ∃ i : Nat, k = n - i + 1 ∧ i ≤ n ∧ s = .int .i64 i)
  case atStart => exact ⟨Below.refl _ _, 0, by simp, Nat.zero_le _, rfl⟩
  case round =>
    obtain ⟨hbx, i, rfl, hin, rfl⟩ := hrel
    have HBx := Lib.hid hbx
    by_cases h0 : i = n
    · subst h0
      clear hbx
      have hd : decide ((i : Int) < i) = false := by simp
      go_wp2
      go_ret
      exact ⟨⟨_, rfl⟩, HBx.out⟩
    · have h1 : (i : Int) < (n : Int) := by omega
      have h2 : (0 : Int) ≤ (i : Int) := by omega
      obtain ⟨b, o, rfl, hsrc⟩ := HO.out (by omega)
      obtain ⟨q, hq⟩ : ∃ v, outs[i]? = some v := ⟨outs[i]'(by omega), List.getElem?_eq_getElem _⟩
      obtain ⟨As, cs, hc0, hc1, -⟩ := (hsrc i q hq).below hbx
      have HR : Hid (wr.rangeAt b (o + i * 2) [.int .i64 q.val, .slice As q.scr.length cs]) := fun j u hu => by
        match j, hu with
        | 0, hu => simp at hu; subst hu; exact hc0
        | 1, hu => simp at hu; subst hu; exact hc1
      clear hsrc hq hc0 hc1 hbx
      go_wp2_with (refine wpList_load_mid rfl 34 (.tmp 12) rfl b (o + i * 2) rfl _ _ HR.out Tryz.underlying34 rfl (by exact info_iout) ?_; refine Stop.mk ?_)
      refine Stop.go ?_
      go_wp2_with fail
      have hal : Below wr.heap.size wr (wr.alloc (.cells #[.int .i64 q.val, .slice As q.scr.length cs] 34)) := (Below.refl _ _).alloc (Nat.le_refl _) _
      refine (fits7_any _ _ _ _ _).mono ?_
      rintro e w2 ⟨⟨bb, rfl⟩, hb2⟩
      have HB2 := Lib.hid (Below.trans' HBx.out HBx.out.size (Below.lower (Below.trans' hal hal.size (Below.lower hb2 hal.size)) HBx.out.size))
      clear hal hb2
      cases bb
      · go_wp2
        go_ret
        exact ⟨⟨_, rfl⟩, HB2.out⟩
      · go_wp2_with fail
        have hw1 : (i : Int) + 1 = ((i + 1 : Nat) : Int) := by omega
        go_roundg (n - (i + 1) + 1)
        case measure => omega
        case rel => exact ⟨HB2.out, i + 1, rfl, by omega, by rw [← hw1]⟩

set_option maxHeartbeats 4000000 in
theorem fits3_any (w : World) (B : Nat) (A : Option Addr) (c : Nat) (ins : List PI) (hO : 0 < ins.length → ∃ b o, A = some ⟨b, o, none⟩ ∧ ∀ j q, ins[j]? = some q → SrcIn B w b (o + j * 36) q) :
    Calls Tryz.prog 13 #[.slice A ins.length c] w (Tells w) := by
  have HO := Lib.hid hO
  clear hO
  generalize hno : ins.length = n at *
  by_cases hn : (2147483647 : Int) < (n : Int)
  · go_enter Tryz.func13, Tryz.ntmps13
    go_wp2
    go_ret
    exact ⟨⟨_, rfl⟩, Below.refl _ _⟩
  go_enter Tryz.func13, Tryz.ntmps13
  go_wp2_with fail
  go_loopg [10, 4] (n + 1) (fun k s s4 wx => Below w.heap.size w wx ∧ ∃ i : Nat, k = n - i + 1 ∧ i ≤ n ∧ s = .int .i64 i)
  case atStart => exact ⟨Below.refl _ _, 0, by simp, Nat.zero_le _, rfl⟩
  case round =>
    obtain ⟨hbx, i, rfl, hin, rfl⟩ := hrel
    have HBx := Lib.hid hbx
    by_cases h0 : i = n
    · subst h0
      clear hbx
      have hd : decide ((i : Int) < i) = false := by simp
      go_wp2
      go_ret
      exact ⟨⟨_, rfl⟩, HBx.out⟩
    · have h1 : (i : Int) < (n : Int) := by omega
      have h2 : (0 : Int) ≤ (i : Int) := by omega
      obtain ⟨b, o, rfl, hsrc⟩ := HO.out (by omega)
      obtain ⟨q, hq⟩ : ∃ v, ins[i]? = some v := ⟨ins[i]'(by omega), List.getElem?_eq_getElem _⟩
      obtain ⟨As, cs, Aw, cw, wvs, hr, -, hcw, hrl⟩ := (hsrc i q hq).below hbx
      obtain ⟨x0, x1, x2, x3, x4, x5, x6, x7, x8, x9, x10, x11, x12, x13, x14, x15, x16, x17, x18, x19, x20, x21, x22, x23, x24, x25, x26, x27, x28, x29, x30, x31, hx⟩ := list32 (L := bv q.h) (by rw [bv_length, q.hl])
      have himg : (inImg q (.slice As q.scr.length cs) (.slice Aw q.wit.length cw)).toArray = #[x0, x1, x2, x3, x4, x5, x6, x7, x8, x9, x10, x11, x12, x13, x14, x15, x16, x17, x18, x19, x20, x21, x22, x23, x24, x25, x26, x27, x28, x29, x30, x31, .int .u32 q.idx, .slice As q.scr.length cs, .slice Aw q.wit.length cw, .int .u32 q.seq] := by simp [inImg, hx]
      have himgl : (inImg q (.slice As q.scr.length cs) (.slice Aw q.wit.length cw)).length = 36 := by simp [inImg, hx]
      have hone : (#[x0, x1, x2, x3, x4, x5, x6, x7, x8, x9, x10, x11, x12, x13, x14, x15, x16, x17, x18, x19, x20, x21, x22, x23, x24, x25, x26, x27, x28, x29, x30, x31, .int .u32 q.idx, .slice As q.scr.length cs, .slice Aw q.wit.length cw, .int .u32 q.seq] : Array Value).all (·.oneCell') = true := by
        rw [← himg]
        refine all_oneCell_toArray fun v hv => ?_
        simp only [inImg, List.mem_append, List.mem_cons, List.not_mem_nil, or_false] at hv
        rcases hv with hv | rfl | rfl | rfl | rfl
        · exact bv_ones _ v hv
        · rfl
        · rfl
        · rfl
        · rfl
      have HR := Lib.hid hr
      have HCW := Lib.hid hcw
      have HRL := Lib.hid hrl
      have HONE := Lib.hid hone
      have HIMG := Lib.hid himg
      clear hsrc hq hr hcw hrl hx hone himg hbx
      go_wp2_with (refine wpList_load_mid rfl 43 (.tmp 12) rfl b (o + i * 36) rfl _ _ HR.out Tryz.underlying43 rfl (by rw [himgl]; exact info_iin) ?_; refine Stop.mk ?_)
      refine Stop.go ?_
      rw [HIMG.out]
      refine wpList_alloc 43 rfl rfl inZero.toArray (by kernel_rfl) ?_
      refine wpList_store_new (w := wr) rfl (.tmp 4) (.tmp 13) 43 rfl rfl _ #[x0, x1, x2, x3, x4, x5, x6, x7, x8, x9, x10, x11, x12, x13, x14, x15, x16, x17, x18, x19, x20, x21, x22, x23, x24, x25, x26, x27, x28, x29, x30, x31, .int .u32 q.idx, .slice As q.scr.length cs, .slice Aw q.wit.length cw, .int .u32 q.seq] rfl rfl info_iin rfl HONE.out ?_
      have hT5 := Blk.new wr 43 #[x0, x1, x2, x3, x4, x5, x6, x7, x8, x9, x10, x11, x12, x13, x14, x15, x16, x17, x18, x19, x20, x21, x22, x23, x24, x25, x26, x27, x28, x29, x30, x31, .int .u32 q.idx, .slice As q.scr.length cs, .slice Aw q.wit.length cw, .int .u32 q.seq]
      have hal : Below wr.heap.size wr (wr.alloc (.cells #[x0, x1, x2, x3, x4, x5, x6, x7, x8, x9, x10, x11, x12, x13, x14, x15, x16, x17, x18, x19, x20, x21, x22, x23, x24, x25, x26, x27, x28, x29, x30, x31, .int .u32 q.idx, .slice As q.scr.length cs, .slice Aw q.wit.length cw, .int .u32 q.seq] 43)) := (Below.refl _ _).alloc (Nat.le_refl _) _
      have H4 := Lib.hid (fits4_any (wr.alloc (.cells #[x0, x1, x2, x3, x4, x5, x6, x7, x8, x9, x10, x11, x12, x13, x14, x15, x16, x17, x18, x19, x20, x21, x22, x23, x24, x25, x26, x27, x28, x29, x30, x31, .int .u32 q.idx, .slice As q.scr.length cs, .slice Aw q.wit.length cw, .int .u32 q.seq] 43)) B x0 x1 x2 x3 x4 x5 x6 x7 x8 x9 x10 x11 x12 x13 x14 x15 x16 x17 x18 x19 x20 x21 x22 x23 x24 x25 x26 x27 x28 x29 x30 x31 q.idx q.seq As Aw q.scr.length cs q.wit.length cw wvs q.wit HONE.out (HCW.out.below hal) (HRL.out.below hal))
      have HBa := Lib.hid (Below.trans' HBx.out HBx.out.size (Below.lower hal HBx.out.size))
      clear hal HR HCW HRL HBx
      generalize wr.heap.size = T5 at *
      generalize wr.alloc (.cells #[x0, x1, x2, x3, x4, x5, x6, x7, x8, x9, x10, x11, x12, x13, x14, x15, x16, x17, x18, x19, x20, x21, x22, x23, x24, x25, x26, x27, x28, x29, x30, x31, .int .u32 q.idx, .slice As q.scr.length cs, .slice Aw q.wit.length cw, .int .u32 q.seq] 43) = W3 at *
      have HT5 := Lib.hid hT5
      clear hT5
      go_wp2_with (refine wpList_load_row rfl 43 (.tmp 4) rfl T5 rfl 43 #[x0, x1, x2, x3, x4, x5, x6, x7, x8, x9, x10, x11, x12, x13, x14, x15, x16, x17, x18, x19, x20, x21, x22, x23, x24, x25, x26, x27, x28, x29, x30, x31, .int .u32 q.idx, .slice As q.scr.length cs, .slice Aw q.wit.length cw, .int .u32 q.seq] (0, 0) _ HT5.out Tryz.underlying43 rfl info_iin ?_; refine Stop.mk ?_)
      refine Stop.go ?_
      go_wp2_with fail
      refine H4.out.mono ?_
      rintro e w2 ⟨⟨bb, rfl⟩, hb2⟩
      have HB2 := Lib.hid (Below.trans' HBa.out HBa.out.size (Below.lower hb2 HBa.out.size))
      clear hb2 H4 HBa HT5
      cases bb
      · go_wp2
        go_ret
        exact ⟨⟨_, rfl⟩, HB2.out⟩
      · go_wp2_with fail
        have hw1 : (i : Int) + 1 = ((i + 1 : Nat) : Int) := by omega
        go_roundg (n - (i + 1) + 1)
        case measure => omega
        case rel => exact ⟨HB2.out, i + 1, rfl, by omega, by rw [← hw1]⟩

theorem fits2_any (w : World) (B : Nat) (Ai Ao : Option Addr) (ci co : Nat) (p : PT) (hs : SrcTx B w Ai Ao p) :
    Calls Tryz.prog 4 #[.agg #[.int .i32 p.ver, .slice Ai p.ins.length ci, .slice Ao p.outs.length co, .int .u32 p.lock]] w (Tells w) := by
  have hb : Below w.heap.size w (w.alloc (.cells #[.int .i32 p.ver, .slice Ai p.ins.length ci, .slice Ao p.outs.length co, .int .u32 p.lock] 27)) := (Below.refl _ _).alloc (Nat.le_refl _) _
  have HB := Lib.hid hb
  have hs1 := hs.below hb
  have H3 := Lib.hid (fits3_any _ B Ai ci p.ins hs1.ins)
  have HS := Lib.hid hs1
  clear hs hb hs1
  go_enter Tryz.func4, Tryz.ntmps4
  go_wp2_with fail
  refine H3.out.mono ?_
  rintro e w1 ⟨⟨b, rfl⟩, hb1⟩
  have hT := (Blk.new w 27 #[.int .i32 p.ver, .slice Ai p.ins.length ci, .slice Ao p.outs.length co, .int .u32 p.lock])
  have hT1 := hT.below hb1 hT.lt
  have t2 := hT1.cell 2
  change _ = some (Value.slice Ao p.outs.length co) at t2
  have hs2 := HS.out.below hb1
  have H6 := Lib.hid (fits6_any _ B Ao co p.outs hs2.outs)
  have HB1 := Lib.hid (Below.trans' HB.out HB.out.size (Below.lower hb1 HB.out.size))
  clear hb1 hT hT1 hs2
  cases b
  · go_wp2
    go_ret
    exact ⟨⟨_, rfl⟩, HB1.out⟩
  · go_wp2_with fail
    refine H6.out.mono ?_
    rintro e w2 ⟨⟨b, rfl⟩, hb2⟩
    have HB2 := Lib.hid (Below.trans' HB1.out HB1.out.size (Below.lower hb2 HB1.out.size))
    clear hb2
    cases b
    · go_wp2
      go_ret
      exact ⟨⟨_, rfl⟩, HB2.out⟩
    · go_wp2
      go_ret
      exact ⟨⟨_, rfl⟩, HB2.out⟩
end Go.Proofs.YtkgihpebghmnbaaGreatDoor
