/- Watch, run to its end: pushes of some elements. -/
import Derived.Test.YtafpgikhcjildaaGreatDoorTellW
import Derived.Test.YtafpgikhcjildaaGreatDoorDebug
import Derived.Test.YtafpgikhcjildaaGreatDoorFront
namespace Go.Proofs.YtafpgikhcjildaaGreatDoor
open Go.RowKit Go.Proofs

set_option maxRecDepth 100000

/-- What Watch comes to. -/
def WatchPost (w : World) (xss : List (List UInt8)) (e : Ending) (w' : World) : Prop :=
  ∃ (A A2 : Option Addr) (c c2 : Nat) (vs : List Value), e = .returned (.tuple #[.int .i64 0, .slice A xss.length c, .slice A2 xss.length c2]) ∧ Cells w' A2 xss.length vs ∧ RdL 0 w' vs xss ∧ Below w.heap.size w w'

set_option maxHeartbeats 2000000 in
theorem watch_any (inC : Array Value) (hTx : TxSaid inC) (w : World) (A : Option Addr) (n c ri ro c1 c2 l : Nat) (ds : List (List UInt8)) (hds : ∀ d ∈ ds, d.length ≤ 520) (hx : ds.length < 1000) (hrd : Rd 0 w (.slice A n c) (code (ds.map pushT ++ [⟨81, []⟩]))) (hn : n ≤ 10000)
    (hri : Blk w ri 63 inC) (hro : Blk w ro 65 #[.int .i64 1, .slice none 0 0]) :
    Calls Tryz.prog 6 #[.agg #[.slice A n c, .int .i64 0, .int .i32 2, .slice (some ⟨ri, 0, none⟩) 1 c1, .slice (some ⟨ro, 0, none⟩) 1 c2, .int .u32 l, .int .i64 0, .int .u32 0]] w (WatchPost w ([[]] ++ ds ++ [[1]])) := by
  have hcode : code (ds.map pushT ++ [⟨81, []⟩]) = code (ds.map pushT) ++ [81] := code_snoc _ _
  have HTS : Hid (∀ t ∈ ds.map pushT ++ [⟨81, []⟩], TokS t) := fun t h => by
    rw [List.mem_append, List.mem_singleton] at h
    rcases h with h | rfl
    · obtain ⟨d, hd, rfl⟩ := List.mem_map.1 h
      have := hds d hd
      exact tokS_pushT d (by omega)
    · exact .inl ⟨rfl, .inr (show 78 < 81 by omega), (show 81 ≤ 255 by omega), _, op81⟩
  have hp0 : 0 < (code (ds.map pushT ++ [⟨81, []⟩])).length := by rw [hcode]; simp
  have HCODE := Lib.hid hcode
  clear hcode
  generalize hts : ds.map pushT ++ [⟨81, []⟩] = ts at *
  have HEQ := Lib.hid hts
  have hl1 := hrd.len.1
  subst hl1
  have hpos := Lib.hid hp0
  have HDS := Lib.hid hds
  clear hp0 hds hts
  have hb : Below w.heap.size w (((w.alloc (.cells #[.slice A (code ts).length c, .int .i64 0, .int .i32 2, .slice (some ⟨ri, 0, none⟩) 1 c1, .slice (some ⟨ro, 0, none⟩) 1 c2, .int .u32 l, .int .i64 0, .int .u32 0] 37)).alloc (.cells #[.slice none 0 0] 27)).alloc (.cells #[.slice none 0 0] 22)) :=
    (((Below.refl _ _).alloc (Nat.le_refl _) _).alloc (by simp) _).alloc (by simp; omega) _
  have H := Lib.hid (hrd.below hb)
  have HRI := Lib.hid (hri.below hb hri.lt)
  have HRO := Lib.hid (hro.below hb hro.lt)
  have hT := ((Blk.new w 37 #[.slice A (code ts).length c, .int .i64 0, .int .i32 2, .slice (some ⟨ri, 0, none⟩) 1 c1, .slice (some ⟨ro, 0, none⟩) 1 c2, .int .u32 l, .int .i64 0, .int .u32 0]).alloc (.cells #[.slice none 0 0] 27)).alloc (.cells #[.slice none 0 0] 22)
  have hSp : Sp w.heap.size (.slice A (code ts).length c) (.int .i64 0) (.int .i32 2) (.slice (some ⟨ri, 0, none⟩) 1 c1) (.slice (some ⟨ro, 0, none⟩) 1 c2) (.int .u32 l) (.int .i64 0) (.int .u32 0) _ :=
    ⟨hT.cell 0, hT.cell 1, hT.cell 2, hT.cell 3, hT.cell 4, hT.cell 5, hT.cell 6, hT.cell 7⟩
  have hP := (Blk.new (w.alloc (.cells #[.slice A (code ts).length c, .int .i64 0, .int .i32 2, .slice (some ⟨ri, 0, none⟩) 1 c1, .slice (some ⟨ro, 0, none⟩) 1 c2, .int .u32 l, .int .i64 0, .int .u32 0] 37)) 27 #[.slice none 0 0]).alloc (.cells #[.slice none 0 0] 22)
  have hQ := Blk.new ((w.alloc (.cells #[.slice A (code ts).length c, .int .i64 0, .int .i32 2, .slice (some ⟨ri, 0, none⟩) 1 c1, .slice (some ⟨ro, 0, none⟩) 1 c2, .int .u32 l, .int .i64 0, .int .u32 0] 37)).alloc (.cells #[.slice none 0 0] 27)) 22 #[.slice none 0 0]
  have hz1 : ∀ o : Obj, (w.alloc o).heap.size = w.heap.size + 1 := fun o => by simp
  have hz2 : ∀ o o2 : Obj, ((w.alloc o).alloc o2).heap.size = w.heap.size + 2 := fun o o2 => by simp
  rw [hz1] at hP
  rw [hz2] at hQ
  have hw : w.heap.size ≤ (((w.alloc (.cells #[.slice A (code ts).length c, .int .i64 0, .int .i32 2, .slice (some ⟨ri, 0, none⟩) 1 c1, .slice (some ⟨ro, 0, none⟩) 1 c2, .int .u32 l, .int .i64 0, .int .u32 0] 37)).alloc (.cells #[.slice none 0 0] 27)).alloc (.cells #[.slice none 0 0] 22)).heap.size := hb.size
  clear hT hrd hri hro
  go_enter Tryz.func6, Tryz.ntmps6
  go_wp2_with fail
  generalize (((w.alloc (.cells #[.slice A (code ts).length c, .int .i64 0, .int .i32 2, .slice (some ⟨ri, 0, none⟩) 1 c1, .slice (some ⟨ro, 0, none⟩) 1 c2, .int .u32 l, .int .i64 0, .int .u32 0] 37)).alloc (.cells #[.slice none 0 0] 27)).alloc (.cells #[.slice none 0 0] 22)) = W at *
  have hf0 : Below w.heap.size w W.drew := ⟨hb.os, hb.tape, hb.output, hb.size, hb.block⟩
  have HBP := Lib.hid hP
  have HBT := Lib.hid hQ
  clear hP hQ hz1 hz2
  generalize hT : w.heap.size = T at *
  have hSd : Sp T (.slice A (code ts).length c) (.int .i64 0) (.int .i32 2) (.slice (some ⟨ri, 0, none⟩) 1 c1) (.slice (some ⟨ro, 0, none⟩) 1 c2) (.int .u32 l) (.int .i64 0) (.int .u32 0) W.drew := hSp
  have hN : Hid ((code ts).length ≤ 1000000000) := show (code ts).length ≤ 1000000000 by omega
  have HTX := Lib.hid hTx
  have a0 := hSp
  obtain ⟨k0, k1, k2, k3, k4, k5, k6, k7⟩ := a0
  have hSW := Lib.hid hSp
  have hSD := Lib.hid hSd
  clear hSp hSd hTx
  go_region_held3 (fun w' => w'.cell? ⟨T, 0, none⟩ = some (.slice A (code ts).length c) ∧ w'.cell? ⟨T, 1, none⟩ = some (.int .i64 0) ∧ w'.cell? ⟨T, 2, none⟩ = some (.int .i32 2) ∧ w'.cell? ⟨T, 3, none⟩ = some (.slice (some ⟨ri, 0, none⟩) 1 c1) ∧
      w'.cell? ⟨T, 4, none⟩ = some (.slice (some ⟨ro, 0, none⟩) 1 c2) ∧ w'.cell? ⟨T, 5, none⟩ = some (.int .u32 l) ∧ w'.cell? ⟨T, 6, none⟩ = some (.int .i64 0) ∧ w'.cell? ⟨T, 7, none⟩ = some (.int .u32 0))
    ((first | exact hSD.out | exact hSW.out | exact Sp.keep (by assumption) (by assumption)))
    (first
      | (go_at_call 12
         refine (copied_any W.drew 0 (code ts).length c A (code ts) (show Rd 0 W.drew _ _ from H.out) hN.out).mono ?_
         rintro e w1 ⟨A', c', rfl, ho, hb1⟩
         have P1 := Lib.hid (Rd.of_own (B := 0) ho (by decide))
         have H1 := Lib.hid (Rd.below (w := W.drew) (show Rd 0 W.drew _ _ from H.out) hb1)
         have R1 := Lib.hid (Blk.step (w := W.drew) (show Blk W.drew _ _ _ from HRI.out) hb1)
         have O1 := Lib.hid (Blk.step (w := W.drew) (show Blk W.drew _ _ _ from HRO.out) hb1)
         have U1 := Lib.hid (Blk.step (w := W.drew) (show Blk W.drew _ _ _ from HBP.out) hb1)
         have V1 := Lib.hid (Blk.step (w := W.drew) (show Blk W.drew _ _ _ from HBT.out) hb1)
         have F1 := Lib.hid (Below.trans' hf0 hw (Below.lower hb1 hw))
         have Z1 : T ≤ w1.heap.size := Nat.le_trans hw hb1.size
         clear ho)
      | (go_at_call 14
         refine (HTX.out _ ri ro c1 c2 2 l R1.out O1.out).mono ?_
         rintro e w2 ⟨tb, ib, rn, rc, As, cs1, txo, rfl, q1, q2, q3, q4, q5, hb2⟩
         have P2 := Lib.hid (P1.out.below hb2)
         have H2 := Lib.hid (H1.out.below hb2)
         have U2 := Lib.hid (U1.out.step hb2)
         have V2 := Lib.hid (V1.out.step hb2)
         have F2 := Lib.hid (Below.trans' F1.out Z1 (Below.lower hb2 Z1))
         have Z2 : T ≤ w2.heap.size := Nat.le_trans Z1 hb2.size
         have Q1 := Lib.hid q1
         have Q2 := Lib.hid q2
         have Q3 := Lib.hid q3
         have Q4 := Lib.hid q4
         clear q1 q2 q3 q4 q5)
      | (go_at_call 15
         refine (fetcher_any _ A (code ts).length c (code ts) 0 _ _ _ _ _ _ H2.out hN.out).mono ?_
         rintro e w3 ⟨⟨x, rfl⟩, hb3⟩
         have P3 := Lib.hid (P2.out.below hb3)
         have U3 := Lib.hid (U2.out.step hb3)
         have V3 := Lib.hid (V2.out.step hb3)
         have F3 := Lib.hid (Below.trans' F2.out Z2 (Below.lower hb3 Z2))
         have Z3 : T ≤ w3.heap.size := Nat.le_trans Z2 hb3.size
         have Q31 := Lib.hid (Blk.step Q1.out hb3)
         have Q33 := Lib.hid (cell_below hb3 Q3.out)
         have Q34 := Lib.hid (cell_below hb3 Q4.out))
      | (go_at_call 13
         refine (debug_any _ tb ib (code ts).length c' cs1 rn rc 0 0 _ x A' As ts 2 l txo _ _ flags0 P3.out HTS.out hpos.out hn Q31.out Q2.out Q33.out Q34.out).mono ?_
         rintro e w4 ⟨g, sb, rfl, hg, hsb, hgs, hblk, hrow, hb4⟩
         have P4 := Lib.hid (P3.out.below hb4)
         have U4 := Lib.hid (U3.out.step hb4)
         have V4 := Lib.hid (V3.out.step hb4)
         have F4 := Lib.hid (Below.trans' F3.out Z3 (Below.lower hb4 Z3))
         have G4 := Lib.hid hg
         have B4 := Lib.hid hblk
         have L4 := Lib.hid hb4.size
         clear hg hsb hgs hblk hrow))
  obtain ⟨b', o', rfl, -⟩ := P4.out.cell (j := 0) hpos.out
  have g4 : w3.heap.size ≤ g := G4.out
  have l4 : w3.heap.size ≤ w4.heap.size := L4.out
  have hglt := B4.out.lt
  have HXE := Lib.hid (execute_told (g := g) (told_w w T g (T + 1) (T + 2)) false (code ts) 0 (by kernel_rfl) ds hn (B := ⟨w4.heap.size, fun _ => False⟩)
    ⟨B4.out, ⟨Nat.le_refl _, fun _ h => h.elim⟩, fun _ _ _ _ h => h, none, 0, [], rfl, ⟨rfl, .inl ⟨rfl, rfl⟩⟩, RdL.nil⟩
    { c6 := rfl, c7 := rfl, c11 := rfl, c12 := rfl, c13 := rfl, c14 := ⟨_, rfl⟩, c15 := rfl, c16 := ⟨_, rfl⟩, c17 := rfl, c18 := rfl, c19 := ⟨_, rfl⟩, c20 := ⟨_, rfl⟩, c21 := rfl, c24 := ⟨_, rfl⟩, c25 := rfl, c27 := rfl, c28 := rfl, c30 := rfl, c32 := rfl }
    rfl rfl rfl P4.out HCODE.out HDS.out hx
    ⟨F4.out, by omega, show T ≤ w4.heap.size by omega, by omega, by omega, by omega, none, none, 0, 0, [], [], U4.out, ⟨rfl, .inl ⟨rfl, rfl⟩⟩, V4.out, ⟨rfl, .inl ⟨rfl, rfl⟩⟩, fun k h => by simp [Value.ownBlock] at h, RdL.nil⟩
    (fun _ _ => by kernel_rfl))
  clear P1 P2 P3 P4 H1 H2 R1 O1 U1 U2 U3 U4 V1 V2 V3 V4 F1 F2 F3 F4 Q1 Q2 Q3 Q4 Q31 Q33 Q34 B4 G4 L4 HBP HBT HRI HRO H hSW hSD HTX HTS
  go_wp2_with fail
  refine HXE.out.mono ?_
  rintro e w5 ⟨rfl, B', hti⟩
  replace hti : TIW w T g (T + 1) (T + 2) ([] :: (ds ++ [[1]])) B' w5 := hti
  generalize ([] :: (ds ++ [[1]]) : List (List UInt8)) = X at *
  clear HXE
  go_wp2_with fail
  obtain ⟨hbel, hsz, -, -, -, -, Ap, At, cp, ct, its, vts, hbp, -, hbt, hot, -, hrl⟩ := hti
  have hcel := Cells.of_own hot
  have hnb : ∀ b o, At = some ⟨b, o, none⟩ → b ≠ T + 1 ∧ b ≠ T + 2 := fun b o e => by
    subst e
    exact ⟨fun h => own_blk_ne hot hbp (by decide) (h ▸ rfl), fun h => own_blk_ne hot hbt (by decide) (h ▸ rfl)⟩
  clear hot
  have p0 := hbp.cell 0
  change _ = some (Value.slice Ap X.length cp) at p0
  have t0 := hbt.cell 0
  change _ = some (Value.slice At X.length ct) at t0
  have pf := hbp.frozen
  have tf := hbt.frozen
  generalize hN2 : X.length = N at *
  refine wp_region_held_drew (S := fun w' => w'.cell? ⟨T + 1, 0, none⟩ = some (.slice Ap N cp) ∧ w'.cell? ⟨T + 2, 0, none⟩ = some (.slice At N ct)) (by kernel_rfl) ⟨p0, t0⟩ (fun hHeld => ?_)
  refine held_take 0 34 (.nilIface) rfl rfl (by kernel_rfl) (by kernel_rfl) (by kernel_rfl) (fun _ _ _ h => h) (Or.inl ⟨wanted_plain rfl _, fun w hSw => by kernel_rfl⟩) (by assumption) ?_
  simp only [List.set_cons_zero, List.set_cons_succ]
  refine held_take 2 36 (.slice Ap N cp) rfl rfl (by kernel_rfl) (by kernel_rfl) (by kernel_rfl) (fun _ _ _ h => h) (Or.inl ⟨wanted_plain rfl _, fun w hSw => exec_load 27 (.tmp 3) rfl rfl (by (obtain ⟨g1, g2⟩ := hSw; go_simp))⟩) (by assumption) ?_
  simp only [List.set_cons_zero, List.set_cons_succ]
  refine held_take 3 37 (.slice At N ct) rfl rfl (by kernel_rfl) (by kernel_rfl) (by kernel_rfl) (fun _ _ _ h => h) (Or.inl ⟨wanted_plain rfl _, fun w hSw => exec_load 22 (.tmp 4) rfl rfl (by (obtain ⟨g1, g2⟩ := hSw; go_simp))⟩) (by assumption) ?_
  simp only [List.set_cons_zero, List.set_cons_succ]
  refine wpAnyH_ready (rs := [1]) (by kernel_rfl) (by simp) ?_
  refine AllReadyH.cons (o := _) rfl (fun K hK => ?_) AllReadyH.nil
  refine step_enter 35 16 #[.nilIface] rfl rfl (by kernel_rfl) ?_
  refine (kind_nil _).mono ?_
  rintro e w6 ⟨rfl, rfl⟩
  refine ⟨_, rfl, ?_⟩
  refine hK.out _ _ ⟨p0, t0⟩ (fun hHeld => ?_)
  clear hK K
  simp only [List.set_cons_zero, List.set_cons_succ]
  refine held_take 4 2 (.int .i64 0) rfl rfl (by kernel_rfl) (by kernel_rfl) (by kernel_rfl) (fun _ _ _ h => h) (Or.inl ⟨wanted_plain rfl _, fun w hSw => by kernel_rfl⟩) (by assumption) ?_
  simp only [List.set_cons_zero, List.set_cons_succ]
  have hbp5 : Blk w5.drew (T + 1) 27 #[.slice Ap N cp] := hbp
  have hbt5 : Blk w5.drew (T + 2) 22 #[.slice At N ct] := hbt
  have b7 := hbp5.set_ 0 (.slice Ap N cp)
  have t7 := hbt5.far (p := ⟨T + 1, 0, none⟩) (show T + 2 ≠ T + 1 by omega) (.slice Ap N cp)
  refine wpAnyH_ready (rs := [5]) (by kernel_rfl) (by simp) ?_
  refine AllReadyH.cons (o := _) rfl (fun K hK => ?_) AllReadyH.nil
  refine step_skip' (w' := w5.drew.setCell ⟨T + 1, 0, none⟩ (.slice Ap N cp)) rfl rfl (exec_store 27 (.tmp 3) (.tmp 36) rfl rfl rfl (by go_simp)) ?_
  refine hK.out _ _ ⟨b7.cell 0, t7.cell 0⟩ (fun hHeld => ?_)
  clear hK K
  have hF7 : Fm (fun j => j = T + 1 ∨ j = T + 2) w5 (w5.drew.setCell ⟨T + 1, 0, none⟩ (.slice Ap N cp)) := Fm.setCell (M := fun j => j = T + 1 ∨ j = T + 2) (p := ⟨T + 1, 0, none⟩) (Fm.refl _ _).drew (fun _ => Or.inl rfl) _
  generalize w5.drew.setCell ⟨T + 1, 0, none⟩ (.slice Ap N cp) = w7 at *
  have u0 := t7.cell 0
  change _ = some (Value.slice At N ct) at u0
  have uf := t7.frozen
  refine wpAnyH_ready (rs := [6]) (by kernel_rfl) (by simp) ?_
  refine AllReadyH.cons (o := _) rfl (fun K hK => ?_) AllReadyH.nil
  refine step_skip' (w' := w7.setCell ⟨T + 2, 0, none⟩ (.slice At N ct)) rfl rfl (exec_store 22 (.tmp 4) (.tmp 37) rfl rfl rfl (by go_simp)) ?_
  have b8 := b7.far (p := ⟨T + 2, 0, none⟩) (show T + 1 ≠ T + 2 by omega) (.slice At N ct)
  have t8 := t7.set_ 0 (.slice At N ct)
  refine hK.out _ _ ⟨b8.cell 0, t8.cell 0⟩ (fun hHeld => ?_)
  clear hK K
  have hF8 : Fm (fun j => j = T + 1 ∨ j = T + 2) w5 (w7.setCell ⟨T + 2, 0, none⟩ (.slice At N ct)) := Fm.setCell (M := fun j => j = T + 1 ∨ j = T + 2) (p := ⟨T + 2, 0, none⟩) hF7 (fun _ => Or.inr rfl) _
  generalize w7.setCell ⟨T + 2, 0, none⟩ (.slice At N ct) = w8 at *
  refine wpAnyH_done (by kernel_rfl) ?_ _
  have hIts : Its 0 w5 (fun j => j = T + 1 ∨ j = T + 2) := by
    rintro j _ (rfl | rfl)
    · exact ⟨Nat.zero_le _, _, _, _, hbp, by decide⟩
    · exact ⟨Nat.zero_le _, _, _, _, hbt, by decide⟩
  have c8 := hcel.fm hF8 (fun b o e h => by
    have := hnb b o e
    omega)
  have r8 := hrl.fm hF8 hIts
  have B8 : Below T w w8 := Below.trans' hbel hsz (hF8.toBelow hsz (fun j hj h => by omega))
  have C8 := Lib.hid c8
  have R8 := Lib.hid r8
  have L8 := Lib.hid B8
  have p8 := b8.cell 0
  change _ = some (Value.slice Ap N cp) at p8
  have q8 := t8.cell 0
  change _ = some (Value.slice At N ct) at q8
  clear hcel hrl hbel hF7 hF8 hIts c8 r8 B8 b7 t7 b8 t8 u0 uf p0 t0 pf tf hbp hbt hbp5 hbt5 hnb
  go_wp2
  refine bodyPost_ret (v := .tuple #[.int .i64 0, .slice Ap N cp, .slice At N ct]) ?_ rfl ?_
  · have hr : (Tryz.f6).results = #[.tmp 2, .cell 3 27, .cell 4 22] := rfl
    unfold results
    simp [hr]
    go_simp
  · exact ⟨Ap, At, cp, ct, vts, by rw [hN2], by rw [hN2]; exact C8.out, R8.out, by rw [hT]; exact L8.out⟩
end Go.Proofs.YtafpgikhcjildaaGreatDoor
