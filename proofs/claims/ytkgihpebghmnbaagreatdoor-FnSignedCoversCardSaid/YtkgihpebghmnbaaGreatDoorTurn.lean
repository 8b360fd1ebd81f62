/- A step that ends the first script: the machine turns to the second one. (Cut out of XStep by program.) -/
import Derived.Test.YtkgihpebghmnbaaGreatDoorG15
import Derived.Test.YtkgihpebghmnbaaGreatDoorTxf
namespace Go.Proofs.YtkgihpebghmnbaaGreatDoor
open Go.RowKit Go.Proofs

set_option maxRecDepth 100000

/-- A step that ends the first script. -/
def StepTurn (w : World) (g : Nat) (B : Bd) (cs : Array Value) (sb _k' : Nat) (sl : Value) (xs1 : List (List UInt8)) (G F : Prop) (e : Ending) (w' : World) : Prop :=
  (e = .returned (.tuple #[.bool false, .nilIface]) ∧ G ∧ ∃ cs', Vm w' g B cs' xs1 ∧ En cs' sb 1 0 0 sl 0 (-1) ∧ Kp cs cs' ∧ Fs g B w w') ∨
  (∃ r, e = .returned (.tuple #[.bool true, r]) ∧ Fault r ∧ F ∧ ∃ cs', Vm w' g B cs' xs1 ∧ Kp cs cs' ∧ Fs g B w w')

theorem turn_en {cs : Array Value} {sb k oi off : Nat} {sl : Value} {pos : Int} (h : En cs sb 0 k oi sl off pos) : En ((((cs.setIfInBounds 28 (.int .i64 0)).setIfInBounds 13 (.int .i64 0)).setIfInBounds 12 (.int .i64 1)).setIfInBounds 14 (.int .i64 0)) sb 1 0 0 sl off pos := by
  have t : ∀ {i : Nat} {v : Value}, cs[i]? = some v → i ≠ 28 → i ≠ 13 → i ≠ 12 → i ≠ 14 → ((((cs.setIfInBounds 28 (.int .i64 0)).setIfInBounds 13 (.int .i64 0)).setIfInBounds 12 (.int .i64 1)).setIfInBounds 14 (.int .i64 0))[i]? = some v := fun hc h1 h2 h3 h4 => get_set (get_set (get_set (get_set hc h1) h2) h3) h4
  obtain ⟨v16, c16⟩ := h.c16
  obtain ⟨v19, c19⟩ := h.c19
  obtain ⟨v20, c20⟩ := h.c20
  obtain ⟨mn, c24⟩ := h.c24
  exact { c6 := t h.c6 (by decide) (by decide) (by decide) (by decide), c7 := t h.c7 (by decide) (by decide) (by decide) (by decide), c11 := t h.c11 (by decide) (by decide) (by decide) (by decide), c15 := t h.c15 (by decide) (by decide) (by decide) (by decide), c16 := ⟨v16, t c16 (by decide) (by decide) (by decide) (by decide)⟩, c17 := t h.c17 (by decide) (by decide) (by decide) (by decide), c18 := t h.c18 (by decide) (by decide) (by decide) (by decide), c19 := ⟨v19, t c19 (by decide) (by decide) (by decide) (by decide)⟩, c20 := ⟨v20, t c20 (by decide) (by decide) (by decide) (by decide)⟩, c21 := t h.c21 (by decide) (by decide) (by decide) (by decide), c24 := ⟨mn, t c24 (by decide) (by decide) (by decide) (by decide)⟩, c25 := t h.c25 (by decide) (by decide) (by decide) (by decide), c27 := t h.c27 (by decide) (by decide) (by decide) (by decide), c30 := t h.c30 (by decide) (by decide) (by decide) (by decide), c32 := t h.c32 (by decide) (by decide) (by decide) (by decide), c12 := get_set (get_here (get_set (get_set h.c12 (by decide)) (by decide))) (by decide), c13 := get_set (get_set (get_here (get_set h.c13 (by decide))) (by decide)) (by decide), c14 := get_here (get_set (get_set (get_set h.c14 (by decide)) (by decide)) (by decide)), c28 := get_set (get_set (get_set (get_here h.c28) (by decide)) (by decide)) (by decide) }

/-- The cells of the tokenizer, turned. -/
def tokNew (cs : Array Value) (sl : Value) : Array Value := ((((((cs.setIfInBounds 15 sl).setIfInBounds 16 (.int .u16 0)).setIfInBounds 17 (.int .i32 0)).setIfInBounds 18 (.int .i32 (-1))).setIfInBounds 19 (.pointer none)).setIfInBounds 20 (.slice none 0 0)).setIfInBounds 21 .nilIface
theorem tokNew_ne {cs : Array Value} {sl : Value} {i : Nat} (h : ¬ (15 ≤ i ∧ i ≤ 21)) : (tokNew cs sl)[i]? = cs[i]? := by
  unfold tokNew
  repeat rw [Array.getElem?_setIfInBounds, if_neg (by omega)]
theorem tokNew_en {cs : Array Value} {sb si k oi off : Nat} {sl sl' : Value} {pos : Int} (h : En cs sb si k oi sl off pos) : En (tokNew cs sl') sb si k oi sl' 0 (-1) := by
  have t : ∀ {i : Nat} {v : Value}, cs[i]? = some v → ¬ (15 ≤ i ∧ i ≤ 21) → (tokNew cs sl')[i]? = some v := fun hc h1 => (tokNew_ne h1).trans hc
  obtain ⟨v16, c16⟩ := h.c16
  obtain ⟨v19, c19⟩ := h.c19
  obtain ⟨v20, c20⟩ := h.c20
  obtain ⟨mn, c24⟩ := h.c24
  exact { c6 := t h.c6 (by omega), c7 := t h.c7 (by omega), c11 := t h.c11 (by omega), c12 := t h.c12 (by omega), c13 := t h.c13 (by omega), c14 := t h.c14 (by omega), c24 := ⟨mn, t c24 (by omega)⟩, c25 := t h.c25 (by omega), c27 := t h.c27 (by omega), c28 := t h.c28 (by omega), c30 := t h.c30 (by omega), c32 := t h.c32 (by omega)
          c15 := get_set (get_set (get_set (get_set (get_set (get_set (get_here h.c15) (by decide)) (by decide)) (by decide)) (by decide)) (by decide)) (by decide)
          c16 := ⟨_, get_set (get_set (get_set (get_set (get_set (get_here (get_set c16 (by decide))) (by decide)) (by decide)) (by decide)) (by decide)) (by decide)⟩
          c17 := get_set (get_set (get_set (get_set (get_here (get_set (get_set h.c17 (by decide)) (by decide))) (by decide)) (by decide)) (by decide)) (by decide)
          c18 := get_set (get_set (get_set (get_here (get_set (get_set (get_set h.c18 (by decide)) (by decide)) (by decide))) (by decide)) (by decide)) (by decide)
          c19 := ⟨_, get_set (get_set (get_here (get_set (get_set (get_set (get_set c19 (by decide)) (by decide)) (by decide)) (by decide))) (by decide)) (by decide)⟩
          c20 := ⟨_, get_set (get_here (get_set (get_set (get_set (get_set (get_set c20 (by decide)) (by decide)) (by decide)) (by decide)) (by decide))) (by decide)⟩
          c21 := get_here (get_set (get_set (get_set (get_set (get_set (get_set h.c21 (by decide)) (by decide)) (by decide)) (by decide)) (by decide)) (by decide)) }
theorem tokNew_kp {cs0 cs : Array Value} (h : Kp cs0 cs) (sl : Value) : Kp cs0 (tokNew cs sl) := fun i hi => (tokNew_ne (by omega)).trans (h i hi)

theorem turn_kp {a b : Array Value} (h : Kp a b) (_e12 : a[12]? = a[12]?) : Kp a ((((b.setIfInBounds 28 (.int .i64 0)).setIfInBounds 13 (.int .i64 0)).setIfInBounds 12 (.int .i64 1)).setIfInBounds 14 (.int .i64 0)) := (((h.set 28 _ (by omega)).set 13 _ (by omega)).set 12 _ (by omega)).set 14 _ (by omega)

/-- What the turn's last region reads. -/
def TurnS (g sb : Nat) (sl : Value) (w : World) : Prop := w.cell? ⟨g, 6, none⟩ = some (.int .u16 0) ∧ w.cell? ⟨g, 11, none⟩ = some (.slice (some ⟨sb, 0, none⟩) 2 2) ∧ w.cell? ⟨g, 12, none⟩ = some (.int .i64 1) ∧ w.cell? ⟨sb, 1, none⟩ = some sl
theorem TurnS.set {g sb : Nat} {sl : Value} {w : World} (h : TurnS g sb sl w) (hsb : sb ≠ g) (i : Nat) (u : Value) (hi : 15 ≤ i) : TurnS g sb sl (w.setCell ⟨g, i, none⟩ u) := by
  obtain ⟨h1, h2, h3, h4⟩ := h
  refine ⟨?_, ?_, ?_, ?_⟩
  · rw [World.cell?_setCell_other _ _ _ _ (by intro e; injection e; omega)]; exact h1
  · rw [World.cell?_setCell_other _ _ _ _ (by intro e; injection e; omega)]; exact h2
  · rw [World.cell?_setCell_other _ _ _ _ (by intro e; injection e; omega)]; exact h3
  · rw [World.cell?_setCell_far _ ⟨g, i, none⟩ ⟨sb, 1, none⟩ _ (Ne.symm hsb)]; exact h4
theorem TurnS.keep7 {g sb : Nat} {sl : Value} {w : World} (h : TurnS g sb sl w) (hsb : sb ≠ g) (u0 u1 u2 u3 u4 u5 u6 : Value) : TurnS g sb sl (((((((w.setCell ⟨g, 15, none⟩ u0).setCell ⟨g, 16, none⟩ u1).setCell ⟨g, 17, none⟩ u2).setCell ⟨g, 18, none⟩ u3).setCell ⟨g, 19, none⟩ u4).setCell ⟨g, 20, none⟩ u5).setCell ⟨g, 21, none⟩ u6) :=
  ((((((h.set hsb 15 u0 (by omega)).set hsb 16 u1 (by omega)).set hsb 17 u2 (by omega)).set hsb 18 u3 (by omega)).set hsb 19 u4 (by omega)).set hsb 20 u5 (by omega)).set hsb 21 u6 (by omega)

set_option maxHeartbeats 4000000 in
theorem step_turn {w : World} {g : Nat} {B : Bd} {cs : Array Value} {xss : List (List UInt8)} {sb si k oi pb po n c off len v k' : Nat} {pos : Int} {nm : ByteArray} {dA : Option Addr} {dn dc : Nat} {xs1 : List (List UInt8)} {G F : Prop} {n1 c1 : Nat} {A1 : Option Addr}
    (h : StepIn w g B cs xss sb si k oi pb po n c off len v k' pos nm dA dn dc xs1 G F) (hoff0 : off + len = n ∧ si = 0) (hsb1 : w.cell? ⟨sb, 1, none⟩ = some (.slice A1 n1 c1)) (hsbB : sb < B.n) (hsbg : sb ≠ g) (hn1 : 0 < n1) :
    Calls Tryz.prog 35 #[.pointer (some ⟨g, 0, none⟩)] w (StepTurn w g B cs sb k' (.slice A1 n1 c1) xs1 G F) := by
  obtain ⟨hV, hE, hsi, hn, hoi, hx1, hbase, hnext, hexec⟩ := h
  have hbl := hV.blk.lt
  have c11 := (hV.blk.cell 11).trans hE.c11
  have c12 := (hV.blk.cell 12).trans hE.c12
  have HPC := Lib.hid (validPC_any w g sb si hbl hsi c11 c12)
  have HV := Lib.hid hV
  have HE := Lib.hid hE
  have HX := Lib.hid hexec
  have HN := Lib.hid hnext
  have HSB := Lib.hid hsb1
  clear c11 c12 hV hE hexec hnext hsb1
  go_enter Tryz.func35, Tryz.ntmps35
  go_wp2_with fail
  refine HPC.out.mono ?_
  rintro e w1 ⟨rfl, m, rfl⟩
  go_wp2_with fail
  refine (HN.out m).mono ?_
  rintro e w1 ⟨rfl, ⟨ln, hb0⟩, hb1, hf1⟩
  have hV1 := HV.out.turn hb1 hf1 (tok_ne _ _ _ _ _ 23 (by omega))
  have hE1 := HE.out.tok (off + len) (pos + 1) (.pointer (some ⟨w.heap.size, 0, none⟩)) (.slice dA dn dc)
  have hF1 : Fs g B w w1 := Fs.of_m1 hf1
  have d20 := (hb1.cell 20).trans (tok_20 HE.out.c20.choose_spec)
  have d19 := (hb1.cell 19).trans (tok_19 HE.out.c19.choose_spec)
  have hob := hb0.cell 0
  have hbl1 := hb1.lt
  have HC := Lib.hid (HX.out (w1.drewN 1) (hV1.drewN 1) (hF1.drewN 1) hob)
  have HE1 := Lib.hid hE1
  have HF1 := Lib.hid hF1
  have HK1 := Lib.hid (tok_kp cs (pos + 1) (off + len : Nat) (.pointer (some ⟨w.heap.size, 0, none⟩)) (.slice dA dn dc))
  have hdat := data_any w1.drew g 15 dA dn dc d20
  clear hb0 hb1 hf1 hV1 hE1 hF1 hob d20
  generalize tokSet cs 15 (pos + 1) (off + len : Nat) (.pointer (some ⟨w.heap.size, 0, none⟩)) (.slice dA dn dc) = cs1 at *
  go_wp2_with fail
  go_still_tail 10, (by kernel_rfl)
  still_call hdat
  refine wpStill_nil ?_
  change wpList _ _ _ _ _ (w1.drewN 1)
  clear hdat
  clear d19
  go_wp2_with fail
  refine HC.out.mono ?_
  rintro e w2 ⟨r, rfl, hr, cs2, hV2, hK2, h28, hF2⟩
  have HF2 := Lib.hid (HF1.out.trans (((Fs.refl g B w1).drewN 1).trans hF2))
  have HE2 := Lib.hid (HE1.out.k2 hK2 h28)
  have HK2 := Lib.hid (HK1.out.trans (Kp.of_k2 hK2))
  have HV2 := Lib.hid hV2
  clear hV2 hK2 h28 hF2 HC HE1 HK1 HF1 HX HN HPC
  rcases hr with ⟨rfl, hG⟩ | ⟨⟨cd, s, rfl, hc0, hc1⟩, hF⟩
  case inr =>
    have hF := Lib.hid hF
    go_wp2
    go_ret2
    exact .inr ⟨_, rfl, ⟨cd, s, rfl, hc0, hc1⟩, hF.out, cs2, HV2.out, HK2.out, HF2.out⟩
  obtain ⟨A2, cc2, items2, h23, -, -⟩ := HV2.out.stk
  have hG := Lib.hid hG
  have hblk2 := HV2.out.blk
  have e23 := (hblk2.cell 23).trans h23
  have e25 := (hblk2.cell 25).trans HE2.out.c25
  have e13 := (hblk2.cell 13).trans HE2.out.c13
  have hbl2 := hblk2.lt
  have hfz2 := hblk2.frozen 13
  clear hblk2 h23
  have hx1' : (xs1.length : Int) ≤ 1000 := by omega
  have hoi1 : (oi : Int) ≤ 1000000 := by omega
  go_wp2_with fail
  go_quiet (first
    | exact Calls.quiet_of_same (depth_q w2 g 23 xs1.length cc2 _ A2 (by omega) e23)
    | exact Calls.quiet_of_same (depth_q w2 g 25 0 0 _ none (by omega) e25))
  go_wp2_with fail
  have hV3 := (HV2.out.drewN nq).set 13 (.int .i64 ((oi : Int) + 1)) (by omega)
  have hE3 := HE2.out.oi (oi + 1) (.int .i64 ((oi : Int) + 1)) (by simp)
  have hF3 := (HF2.out.drewN nq).set 13 (.int .i64 ((oi : Int) + 1))
  have hK3 := HK2.out.set 13 (.int .i64 ((oi : Int) + 1)) (by omega)
  clear e23 e25 e13 hbl2 hfz2 HV2 HE2 HF2 HK2
  generalize (w2.drewN nq).setCell ⟨g, 13, none⟩ (.int .i64 ((oi : Int) + 1)) = w3 at *
  generalize cs2.setIfInBounds 13 (.int .i64 ((oi : Int) + 1)) = cs3 at *
  have hD := Lib.hid (done_any w3 g 15 n c (some ⟨pb, po, none⟩) (off + len : Nat) (by omega) (by omega) (by omega) ((hV3.blk.cell 21).trans hE3.c21) ((hV3.blk.cell 17).trans hE3.c17) ((hV3.blk.cell 15).trans hE3.c15))
  have HV3 := Lib.hid hV3
  have HE3 := Lib.hid hE3
  have HF3 := Lib.hid hF3
  have HK3 := Lib.hid hK3
  clear hV3 hE3 hF3 hK3
  refine hD.out.mono ?_
  rintro e w4 ⟨rfl, m4, rfl⟩
  clear hD
  have hd : decide ((n : Int) ≤ ((off + len : Nat) : Int)) = true := by simp; omega
  rw [hd]
  clear hd
  have hsi1 : si = 0 := hoff0.2
  subst hsi1
  have hE3 := HE3.out
  have hV4 := HV3.out.drewN m4
  have e27 := (hV4.blk.cell 27).trans hE3.c27
  have e25 := (hV4.blk.cell 25).trans hE3.c25
  have hbl4 := hV4.blk.lt
  have hF4 := HF3.out.drewN m4
  clear HF3 HV3
  generalize w3.drewN m4 = w4 at *
  have HV4 := Lib.hid hV4
  have HF4 := Lib.hid hF4
  clear hV4 hF4 hE3
  go_wp2_with fail
  go_still_tail 7, (by kernel_rfl)
  still_call (depth_q w4 g 25 0 0 1 none (by omega) e25)
  refine wpStill_nil ?_
  change wpList _ _ _ _ _ (w4.drewN 1)
  go_wp2_with fail
  refine (dropN0_any (w4.drewN 1) _).mono ?_
  rintro e w5 ⟨⟨x, rfl⟩, hb5⟩
  have hV5 := (HV4.out.drewN 1).below hb5
  have HF5 := Lib.hid ((HF4.out.drewN 1).below hb5)
  have hE3 := HE3.out
  have b5 := hV5.blk
  have e7 := (b5.cell 7).trans hE3.c7
  have e11 := (b5.cell 11).trans hE3.c11
  have e12 := (b5.cell 12).trans hE3.c12
  have e13 := (b5.cell 13).trans hE3.c13
  have e14' := hE3.c14
  have e14 := (b5.cell 14).trans e14'
  clear e14'
  have e28 := (b5.cell 28).trans hE3.c28
  have e30 := (b5.cell 30).trans hE3.c30
  have hfz := b5.frozen
  have hbl5 := b5.lt
  have HV5 := Lib.hid hV5
  clear hV5 b5 hE3 hb5 e25 e27 hbl4
  have hs1 := HF5.out.cell HSB.out hsbB hsbg
  have hn1' : ¬ ((n1 : Int) = 0) := by omega
  have hn1'' : ((n1 : Int) == 0) = false := by simp; omega
  go_wp2_with fail
  go_quiet (fail)
  rename Nat => q0
  go_wp2_with fail
  go_quiet (fail)
  have hV6 := (((((HV5.out.set 28 (.int .i64 0) (by omega)).set 13 (.int .i64 0) (by omega)).set 12 (.int .i64 1) (by omega)).drewN q0).set 14 (.int .i64 0) (by omega)).drewN nq
  have hF6 := (((((HF5.out.set 28 (.int .i64 0)).set 13 (.int .i64 0)).set 12 (.int .i64 1)).drewN q0).set 14 (.int .i64 0)).drewN nq
  have hK6 := turn_kp HK3.out rfl
  have hE6 := turn_en HE3.out
  clear e7 e11 e12 e13 e14 e28 e30 hfz hbl5 hs1 HF5 HV5 HK3 HF4 HV4 HE3
  generalize (((((w5.setCell ⟨g, 28, none⟩ (.int .i64 0)).setCell ⟨g, 13, none⟩ (.int .i64 0)).setCell ⟨g, 12, none⟩ (.int .i64 1)).drewN q0).setCell ⟨g, 14, none⟩ (.int .i64 0)).drewN nq = w6 at *
  generalize (((cs3.setIfInBounds 28 (.int .i64 0)).setIfInBounds 13 (.int .i64 0)).setIfInBounds 12 (.int .i64 1)).setIfInBounds 14 (.int .i64 0) = cs4 at *
  have b6 := hV6.blk
  have r6 := (b6.cell 6).trans hE6.c6
  have r11 := (b6.cell 11).trans hE6.c11
  have r12 := (b6.cell 12).trans hE6.c12
  have rs1 := hF6.cell HSB.out hsbB hsbg
  have hbl6 := b6.lt
  have HV6 := Lib.hid hV6
  have HF6 := Lib.hid hF6
  have HK6 := Lib.hid hK6
  have HE6 := Lib.hid hE6
  clear hV6 hF6 hK6 hE6 b6
  go_wp2_with fail
  have hS6 : Hid (TurnS g sb (.slice A1 n1 c1) w6.drew) := ⟨r6, r11, r12, rs1⟩
  refine wp_region_f_drew (S := (fun w' => w'.cell? ⟨g, 6, none⟩ = some (.int .u16 0) ∧ w'.cell? ⟨g, 11, none⟩ = some (.slice (some ⟨sb, 0, none⟩) 2 2) ∧ w'.cell? ⟨g, 12, none⟩ = some (.int .i64 1) ∧ w'.cell? ⟨sb, 1, none⟩ = some (.slice A1 n1 c1))) (F := [18]) (by kernel_rfl) (hS6.out) (fun hHeld => ?_)
  clear hHeld
  have hHeld := hS6.out
  refine f_take 0 296 (.pointer (some ⟨g, 0, none⟩)) rfl rfl (by kernel_rfl) (by kernel_rfl) (by kernel_rfl) (by kernel_rfl) (fun _ _ _ h => h) (Or.inl ⟨wanted_plain rfl _, fun w hSw => by kernel_rfl⟩) (by assumption) ?_
  simp only [List.set_cons_zero, List.set_cons_succ]
  refine f_take 1 297 (.pointer (some ⟨g, 0, none⟩)) rfl rfl (by kernel_rfl) (by kernel_rfl) (by kernel_rfl) (by kernel_rfl) (fun _ _ _ h => h) (Or.inl ⟨wanted_plain rfl _, fun w hSw => by kernel_rfl⟩) (by assumption) ?_
  simp only [List.set_cons_zero, List.set_cons_succ]
  refine f_take 2 298 (.pointer (some ⟨g, 0, none⟩)) rfl rfl (by kernel_rfl) (by kernel_rfl) (by kernel_rfl) (by kernel_rfl) (fun _ _ _ h => h) (Or.inl ⟨wanted_plain rfl _, fun w hSw => by kernel_rfl⟩) (by assumption) ?_
  simp only [List.set_cons_zero, List.set_cons_succ]
  refine f_take 3 299 (.pointer (some ⟨g, 6, none⟩)) rfl rfl (by kernel_rfl) (by kernel_rfl) (by kernel_rfl) (by kernel_rfl) (fun _ _ _ h => h) (Or.inl ⟨wanted_plain rfl _, fun w hSw => by kernel_rfl⟩) (by assumption) ?_
  simp only [List.set_cons_zero, List.set_cons_succ]
  refine f_take 4 300 (.int .u16 0) rfl rfl (by kernel_rfl) (by kernel_rfl) (by kernel_rfl) (by kernel_rfl) (fun _ _ _ h => h) (Or.inl ⟨wanted_plain rfl _, fun w hSw => exec_load 74 (.tmp 299) rfl rfl (by (obtain ⟨g1, g2, g3, g4⟩ := hSw; go_simp))⟩) (by assumption) ?_
  simp only [List.set_cons_zero, List.set_cons_succ]
  refine f_take 5 301 (.pointer (some ⟨g, 0, none⟩)) rfl rfl (by kernel_rfl) (by kernel_rfl) (by kernel_rfl) (by kernel_rfl) (fun _ _ _ h => h) (Or.inl ⟨wanted_plain rfl _, fun w hSw => by kernel_rfl⟩) (by assumption) ?_
  simp only [List.set_cons_zero, List.set_cons_succ]
  refine f_take 6 302 (.pointer (some ⟨g, 0, none⟩)) rfl rfl (by kernel_rfl) (by kernel_rfl) (by kernel_rfl) (by kernel_rfl) (fun _ _ _ h => h) (Or.inl ⟨wanted_plain rfl _, fun w hSw => by kernel_rfl⟩) (by assumption) ?_
  simp only [List.set_cons_zero, List.set_cons_succ]
  refine f_take 7 303 (.pointer (some ⟨g, 11, none⟩)) rfl rfl (by kernel_rfl) (by kernel_rfl) (by kernel_rfl) (by kernel_rfl) (fun _ _ _ h => h) (Or.inl ⟨wanted_plain rfl _, fun w hSw => by kernel_rfl⟩) (by assumption) ?_
  simp only [List.set_cons_zero, List.set_cons_succ]
  refine f_take 8 304 (.slice (some ⟨sb, 0, none⟩) 2 2) rfl rfl (by kernel_rfl) (by kernel_rfl) (by kernel_rfl) (by kernel_rfl) (fun _ _ _ h => h) (Or.inl ⟨wanted_plain rfl _, fun w hSw => exec_load 41 (.tmp 303) rfl rfl (by (obtain ⟨g1, g2, g3, g4⟩ := hSw; go_simp))⟩) (by assumption) ?_
  simp only [List.set_cons_zero, List.set_cons_succ]
  refine f_take 9 305 (.pointer (some ⟨g, 0, none⟩)) rfl rfl (by kernel_rfl) (by kernel_rfl) (by kernel_rfl) (by kernel_rfl) (fun _ _ _ h => h) (Or.inl ⟨wanted_plain rfl _, fun w hSw => by kernel_rfl⟩) (by assumption) ?_
  simp only [List.set_cons_zero, List.set_cons_succ]
  refine f_take 10 306 (.pointer (some ⟨g, 0, none⟩)) rfl rfl (by kernel_rfl) (by kernel_rfl) (by kernel_rfl) (by kernel_rfl) (fun _ _ _ h => h) (Or.inl ⟨wanted_plain rfl _, fun w hSw => by kernel_rfl⟩) (by assumption) ?_
  simp only [List.set_cons_zero, List.set_cons_succ]
  refine f_take 11 307 (.pointer (some ⟨g, 12, none⟩)) rfl rfl (by kernel_rfl) (by kernel_rfl) (by kernel_rfl) (by kernel_rfl) (fun _ _ _ h => h) (Or.inl ⟨wanted_plain rfl _, fun w hSw => by kernel_rfl⟩) (by assumption) ?_
  simp only [List.set_cons_zero, List.set_cons_succ]
  refine f_take 12 308 (.int .i64 1) rfl rfl (by kernel_rfl) (by kernel_rfl) (by kernel_rfl) (by kernel_rfl) (fun _ _ _ h => h) (Or.inl ⟨wanted_plain rfl _, fun w hSw => exec_load 3 (.tmp 307) rfl rfl (by (obtain ⟨g1, g2, g3, g4⟩ := hSw; go_simp))⟩) (by assumption) ?_
  simp only [List.set_cons_zero, List.set_cons_succ]
  refine f_take 13 309 (.pointer (some ⟨sb, 1, none⟩)) rfl rfl (by kernel_rfl) (by kernel_rfl) (by kernel_rfl) (by kernel_rfl) (fun _ _ _ h => h) (Or.inl ⟨wanted_plain rfl _, fun w hSw => by kernel_rfl⟩) (by assumption) ?_
  simp only [List.set_cons_zero, List.set_cons_succ]
  refine f_take 14 310 (.slice A1 n1 c1) rfl rfl (by kernel_rfl) (by kernel_rfl) (by kernel_rfl) (by kernel_rfl) (fun _ _ _ h => h) (Or.inl ⟨wanted_plain rfl _, fun w hSw => exec_load 30 (.tmp 309) rfl rfl (by (obtain ⟨g1, g2, g3, g4⟩ := hSw; go_simp))⟩) (by assumption) ?_
  simp only [List.set_cons_zero, List.set_cons_succ]
  refine wpAnyF_ready (rs := [15]) (by kernel_rfl) (by simp) ?_
  refine AllReadyF.cons (o := _) rfl (fun K hK => ?_) AllReadyF.nil
  refine step_enter 311 40 #[.int .u16 0, .slice A1 n1 c1] rfl rfl (by kernel_rfl) ?_
  refine (mkTok_any w6.drew A1 n1 c1).mono ?_
  rintro e w7 ⟨rfl, hb7⟩
  have hV7 : Vm w7 g B cs4 xs1 := (show Vm w6.drew g B cs4 xs1 from HV6.out.drewN 1).below hb7
  have HF7 : Hid (Fs g B w w7) := (show Fs g B w w6.drew from HF6.out.drewN 1).below hb7
  have hE6 := HE6.out
  have b7 := hV7.blk
  have hS7 : Hid (TurnS g sb (.slice A1 n1 c1) w7) := ⟨(b7.cell 6).trans hE6.c6, (b7.cell 11).trans hE6.c11, (b7.cell 12).trans hE6.c12, HF7.out.cell HSB.out hsbB hsbg⟩
  have x15 := (b7.cell 15).trans hE6.c15
  have x17 := (b7.cell 17).trans hE6.c17
  have x18 := (b7.cell 18).trans hE6.c18
  obtain ⟨v16, c16⟩ := hE6.c16
  obtain ⟨v19, c19⟩ := hE6.c19
  obtain ⟨v20, c20⟩ := hE6.c20
  have x16 := (b7.cell 16).trans c16
  have x19 := (b7.cell 19).trans c19
  have x20 := (b7.cell 20).trans c20
  have x21 := (b7.cell 21).trans hE6.c21
  have hfz7 := b7.frozen
  have hbl7 := b7.lt
  have HV7 := Lib.hid hV7
  clear hV7 b7 hb7 r6 r11 r12 rs1 hbl6 hE6 c16 c19 c20
  refine ⟨_, rfl, ?_⟩
  refine hK.out _ _ (.inr (hS7.out)) (fun hH => ?_)
  have hHeld := hH.resolve_left (by decide)
  clear hK K hH
  try simp only [List.set_cons_zero, List.set_cons_succ]
  refine wpAnyF_ready (rs := [16]) (by kernel_rfl) (by simp) ?_
  refine AllReadyF.cons (o := _) rfl (fun K hK => ?_) AllReadyF.nil
  refine step_val 312 (v := .pointer (some ⟨g, 0, none⟩)) (w' := w7) rfl rfl (by kernel_rfl) ?_
  refine hK.out _ _ (.inr (hS7.out)) (fun hH => ?_)
  have hHeld := hH.resolve_left (by decide)
  clear hK K hH
  try simp only [List.set_cons_zero, List.set_cons_succ]
  refine wpAnyF_ready (rs := [17]) (by kernel_rfl) (by simp) ?_
  refine AllReadyF.cons (o := _) rfl (fun K hK => ?_) AllReadyF.nil
  refine step_val 313 (v := .pointer (some ⟨g, 15, none⟩)) (w' := w7) rfl rfl (by kernel_rfl) ?_
  refine hK.out _ _ (.inr (hS7.out)) (fun hH => ?_)
  have hHeld := hH.resolve_left (by decide)
  clear hK K hH
  try simp only [List.set_cons_zero, List.set_cons_succ]
  refine wpAnyF_ready (rs := [18]) (by kernel_rfl) (by simp) ?_
  refine AllReadyF.cons (o := _) rfl (fun K hK => ?_) AllReadyF.nil
  refine step_skip' (w' := (((((((w7.setCell ⟨g, 15, none⟩ (.slice A1 n1 c1)).setCell ⟨g, 16, none⟩ (.int .u16 0)).setCell ⟨g, 17, none⟩ (.int .i32 0)).setCell ⟨g, 18, none⟩ (.int .i32 (-1))).setCell ⟨g, 19, none⟩ (.pointer none)).setCell ⟨g, 20, none⟩ (.slice none 0 0)).setCell ⟨g, 21, none⟩ (.nilIface))) rfl rfl (exec_store 104 (.tmp 313) (.tmp 311) rfl rfl rfl (by go_simp)) ?_
  refine hK.out _ _ (.inl (by decide)) (fun _ => ?_)
  clear hK K
  try simp only [List.set_cons_zero, List.set_cons_succ]
  refine wpAnyF_done (by kernel_rfl) ?_ _
  go_wp2
  go_ret2
  refine .inl ⟨rfl, hG.out, _, ((((((HV7.out.set 15 (.slice A1 n1 c1) (by omega)).set 16 (.int .u16 0) (by omega)).set 17 (.int .i32 0) (by omega)).set 18 (.int .i32 (-1)) (by omega)).set 19 (.pointer none) (by omega)).set 20 (.slice none 0 0) (by omega)).set 21 .nilIface (by omega), tokNew_en HE6.out, tokNew_kp HK6.out _, ?_⟩
  exact ((((((HF7.out.set 15 (.slice A1 n1 c1)).set 16 (.int .u16 0)).set 17 (.int .i32 0)).set 18 (.int .i32 (-1))).set 19 (.pointer none)).set 20 (.slice none 0 0)).set 21 .nilIface
end Go.Proofs.YtkgihpebghmnbaaGreatDoor
