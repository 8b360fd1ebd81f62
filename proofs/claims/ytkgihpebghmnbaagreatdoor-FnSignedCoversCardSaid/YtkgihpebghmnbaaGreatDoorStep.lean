/- A step of the machine. -/
import Derived.Test.YtkgihpebghmnbaaGreatDoorExec
namespace Go.Proofs.YtkgihpebghmnbaaGreatDoor
open Go.RowKit Go.Proofs

set_option maxRecDepth 100000

/-- The machine's cells between two opcodes: of script si (its bytes: sl), at place off. -/
structure En (cs : Array Value) (sb si k oi : Nat) (sl : Value) (off : Nat) (pos : Int) : Prop where
  c6 : cs[6]? = some (.int .u16 0)
  c7 : cs[7]? = some (.bool false)
  c11 : cs[11]? = some (.slice (some ⟨sb, 0, none⟩) 2 2)
  c12 : cs[12]? = some (.int .i64 si)
  c13 : cs[13]? = some (.int .i64 oi)
  c14 : cs[14]? = some (.int .i64 0)
  c15 : cs[15]? = some sl
  c16 : ∃ v, cs[16]? = some v
  c17 : cs[17]? = some (.int .i32 off)
  c18 : cs[18]? = some (.int .i32 pos)
  c19 : ∃ v, cs[19]? = some v
  c20 : ∃ v, cs[20]? = some v
  c21 : cs[21]? = some .nilIface
  c24 : ∃ mn, cs[24]? = some (.bool mn)
  c25 : cs[25]? = some (.slice none 0 0)
  c27 : cs[27]? = some (.slice none 0 0)
  c28 : cs[28]? = some (.int .i64 k)
  c30 : cs[30]? = some (.slice none 0 0)
  c32 : cs[32]? = some (.pointer none)

/-- The cells that no step turns. -/
def Kp (cs cs' : Array Value) : Prop := ∀ i, i < 12 ∨ i = 22 ∨ (24 ≤ i ∧ i ≠ 28) → cs'[i]? = cs[i]?
/-- All cells but the stack's and the count of opcodes. -/
def K2 (cs cs' : Array Value) : Prop := ∀ i, i ≠ 23 → i ≠ 28 → cs'[i]? = cs[i]?
theorem Kp.refl (cs : Array Value) : Kp cs cs := fun _ _ => rfl
theorem Kp.trans {a b c : Array Value} (h : Kp a b) (k : Kp b c) : Kp a c := fun i hi => (k i hi).trans (h i hi)
theorem Kp.of_k2 {a b : Array Value} (h : K2 a b) : Kp a b := fun i hi => h i (by omega) (by omega)
theorem Kp.set {a b : Array Value} (h : Kp a b) (j : Nat) (u : Value) (hj : ¬ (j < 12 ∨ j = 22 ∨ (24 ≤ j ∧ j ≠ 28))) : Kp a (b.setIfInBounds j u) := fun i hi => by
  rw [Array.getElem?_setIfInBounds, if_neg (by rintro rfl; exact hj hi)]
  exact h i hi

theorem tok_ne (cs : Array Value) (p o : Int) (op d : Value) (i : Nat) (h : ¬ (17 ≤ i ∧ i ≤ 20)) : (tokSet cs 15 p o op d)[i]? = cs[i]? := by
  unfold tokSet
  repeat rw [Array.getElem?_setIfInBounds, if_neg (by omega)]
theorem tok_17 {cs : Array Value} {p o : Int} {op d v : Value} (h : cs[17]? = some v) : (tokSet cs 15 p o op d)[17]? = some (.int .i32 o) := get_set (get_set (get_here (get_set h (by omega))) (by omega)) (by omega)
theorem tok_18 {cs : Array Value} {p o : Int} {op d v : Value} (h : cs[18]? = some v) : (tokSet cs 15 p o op d)[18]? = some (.int .i32 p) := get_set (get_set (get_set (get_here h) (by omega)) (by omega)) (by omega)
theorem tok_19 {cs : Array Value} {p o : Int} {op d v : Value} (h : cs[19]? = some v) : (tokSet cs 15 p o op d)[19]? = some op := get_set (get_here (get_set (get_set h (by omega)) (by omega))) (by omega)
theorem tok_20 {cs : Array Value} {p o : Int} {op d v : Value} (h : cs[20]? = some v) : (tokSet cs 15 p o op d)[20]? = some d := get_here (get_set (get_set (get_set h (by omega)) (by omega)) (by omega))
theorem tok_kp (cs : Array Value) (p o : Int) (op d : Value) : Kp cs (tokSet cs 15 p o op d) := fun i hi => tok_ne cs p o op d i (by omega)

theorem En.tok {cs : Array Value} {sb si k oi off : Nat} {sl : Value} {pos : Int} (h : En cs sb si k oi sl off pos) (off' : Nat) (p : Int) (op d : Value) : En (tokSet cs 15 p off' op d) sb si k oi sl off' p := by
  obtain ⟨c6, c7, c11, c12, c13, c14, c15, c16, c17, c18, ⟨v19, c19⟩, ⟨v20, c20⟩, c21, ⟨mn, c24⟩, c25, c27, c28, c30, c32⟩ := h
  have t : ∀ i, ¬ (17 ≤ i ∧ i ≤ 20) → (tokSet cs 15 p off' op d)[i]? = cs[i]? := fun i hi => tok_ne cs p off' op d i hi
  exact { c6 := (t 6 (by omega)).trans c6, c7 := (t 7 (by omega)).trans c7, c11 := (t 11 (by omega)).trans c11, c12 := (t 12 (by omega)).trans c12, c13 := (t 13 (by omega)).trans c13, c14 := (t 14 (by omega)).trans c14, c15 := (t 15 (by omega)).trans c15, c16 := ⟨_, (t 16 (by omega)).trans c16.choose_spec⟩, c17 := tok_17 c17, c18 := tok_18 c18, c19 := ⟨_, tok_19 c19⟩, c20 := ⟨_, tok_20 c20⟩, c21 := (t 21 (by omega)).trans c21, c24 := ⟨mn, (t 24 (by omega)).trans c24⟩, c25 := (t 25 (by omega)).trans c25, c27 := (t 27 (by omega)).trans c27, c28 := (t 28 (by omega)).trans c28, c30 := (t 30 (by omega)).trans c30, c32 := (t 32 (by omega)).trans c32 }
theorem En.k2 {cs cs' : Array Value} {sb si k k' oi off : Nat} {sl : Value} {pos : Int} (h : En cs sb si k oi sl off pos) (hk : K2 cs cs') (h28 : cs'[28]? = some (.int .i64 k')) : En cs' sb si k' oi sl off pos := by
  obtain ⟨c6, c7, c11, c12, c13, c14, c15, c16, c17, c18, c19, c20, c21, ⟨mn, c24⟩, c25, c27, c28, c30, c32⟩ := h
  have t := hk
  exact { c6 := (t 6 (by omega) (by omega)).trans c6, c7 := (t 7 (by omega) (by omega)).trans c7, c11 := (t 11 (by omega) (by omega)).trans c11, c12 := (t 12 (by omega) (by omega)).trans c12, c13 := (t 13 (by omega) (by omega)).trans c13, c14 := (t 14 (by omega) (by omega)).trans c14, c15 := (t 15 (by omega) (by omega)).trans c15, c16 := ⟨_, (t 16 (by omega) (by omega)).trans c16.choose_spec⟩, c17 := (t 17 (by omega) (by omega)).trans c17, c18 := (t 18 (by omega) (by omega)).trans c18, c19 := ⟨_, (t 19 (by omega) (by omega)).trans c19.choose_spec⟩, c20 := ⟨_, (t 20 (by omega) (by omega)).trans c20.choose_spec⟩, c21 := (t 21 (by omega) (by omega)).trans c21, c24 := ⟨mn, (t 24 (by omega) (by omega)).trans c24⟩, c25 := (t 25 (by omega) (by omega)).trans c25, c27 := (t 27 (by omega) (by omega)).trans c27, c28 := h28, c30 := (t 30 (by omega) (by omega)).trans c30, c32 := (t 32 (by omega) (by omega)).trans c32 }
theorem En.oi {cs : Array Value} {sb si k oi off : Nat} {sl : Value} {pos : Int} (h : En cs sb si k oi sl off pos) (oi' : Nat) (u : Value) (hu : u = .int .i64 oi') : En (cs.setIfInBounds 13 u) sb si k oi' sl off pos := by
  subst hu
  obtain ⟨c6, c7, c11, c12, c13, c14, c15, c16, c17, c18, c19, c20, c21, ⟨mn, c24⟩, c25, c27, c28, c30, c32⟩ := h
  have t : ∀ i, i ≠ 13 → (cs.setIfInBounds 13 (.int .i64 oi'))[i]? = cs[i]? := fun i hi => by rw [Array.getElem?_setIfInBounds, if_neg (fun e => hi e.symm)]
  exact { c6 := (t 6 (by omega)).trans c6, c7 := (t 7 (by omega)).trans c7, c11 := (t 11 (by omega)).trans c11, c12 := (t 12 (by omega)).trans c12, c13 := get_here c13, c14 := (t 14 (by omega)).trans c14, c15 := (t 15 (by omega)).trans c15, c16 := ⟨_, (t 16 (by omega)).trans c16.choose_spec⟩, c17 := (t 17 (by omega)).trans c17, c18 := (t 18 (by omega)).trans c18, c19 := ⟨_, (t 19 (by omega)).trans c19.choose_spec⟩, c20 := ⟨_, (t 20 (by omega)).trans c20.choose_spec⟩, c21 := (t 21 (by omega)).trans c21, c24 := ⟨mn, (t 24 (by omega)).trans c24⟩, c25 := (t 25 (by omega)).trans c25, c27 := (t 27 (by omega)).trans c27, c28 := (t 28 (by omega)).trans c28, c30 := (t 30 (by omega)).trans c30, c32 := (t 32 (by omega)).trans c32 }

theorem validPC_any (w : World) (g sb si : Nat) (_hlt : g < w.heap.size) (hsi : si < 2) (c11 : w.cell? ⟨g, 11, none⟩ = some (.slice (some ⟨sb, 0, none⟩) 2 2)) (c12 : w.cell? ⟨g, 12, none⟩ = some (.int .i64 si)) :
    Calls Tryz.prog 55 #[.pointer (some ⟨g, 0, none⟩)] w fun e w' => e = .returned .nilIface ∧ ∃ m, w' = w.drewN m := by
  have h1 : ¬ (2 ≤ (si : Int)) := by omega
  have h2 : (si : Int) < 2 := by omega
  go_enter Tryz.func55, Tryz.ntmps55
  go_wp2
  go_quiet (fail)
  go_wp2
  go_ret
  exact ⟨rfl, _, rfl⟩

theorem data_any (w : World) (b o : Nat) (A : Option Addr) (n c : Nat) (h : w.cell? ⟨b, o + 5, none⟩ = some (.slice A n c)) :
    Calls Tryz.prog 57 #[.pointer (some ⟨b, o, none⟩)] w fun e w' => e = .returned (.slice A n c) ∧ w' = w := by
  go_enter Tryz.func57, Tryz.ntmps57
  go_wp2
  go_ret
  exact ⟨rfl, rfl⟩

/-- The machine's block has turned, but not where its stack lies. -/
theorem Vm.turn {w w1 : World} {g : Nat} {B : Bd} {cs cs1 : Array Value} {xss : List (List UInt8)} (h : Vm w g B cs xss) (hb : Blk w1 g 111 cs1) (hf : Fm (M1 g) w w1) (h23 : cs1[23]? = cs[23]?) : Vm w1 g B cs1 xss := by
  obtain ⟨A, c, items, h1, h2, h3⟩ := h.stk
  refine ⟨hb, h.base.le hf.size, fun v k hv => h.free v k (h23.symm.trans hv), A, c, items, h23.trans h1, own_fm h2 hf ?_, (Fs.of_m1 (B := B) hf).rdl h.blk h3⟩
  rintro j hj rfl
  exact own_blk_ne h2 h.blk (by decide) hj

theorem depth_q (w : World) (b o n c m : Nat) (A : Option Addr) (hn : n ≤ 2147483647) (h : w.cell? ⟨b, o, none⟩ = some (.slice A n c)) :
    Calls Tryz.prog 58 #[.pointer (some ⟨b, o, none⟩)] (w.drewN m) fun e w' => e = .returned (.int .i32 n) ∧ w' = w.drewN m :=
  (depth_any (w.drewN m) b o n c A hn h).mono fun _ _ h => ⟨h.1, h.2.symm⟩

/-- What an opcode's execution leaves: no fault and G, or a fault and F. -/
def Ran (w1 : World) (g : Nat) (B : Bd) (cs1 : Array Value) (k' : Nat) (xs1 : List (List UInt8)) (G F : Prop) (e : Ending) (w' : World) : Prop :=
  ∃ r, e = .returned r ∧ ((r = .nilIface ∧ G) ∨ (Fault r ∧ F)) ∧ ∃ cs', Vm w' g B cs' xs1 ∧ K2 cs1 cs' ∧ cs'[28]? = some (.int .i64 k') ∧ Fs g B w1 w'

/-- What the step needs: the machine, its cells, the next token as it is read, and what its opcode does. -/
structure StepIn (w : World) (g : Nat) (B : Bd) (cs : Array Value) (xss : List (List UInt8)) (sb si k oi pb po n c off len v k' : Nat) (pos : Int) (nm : ByteArray) (dA : Option Addr) (dn dc : Nat) (xs1 : List (List UInt8)) (G F : Prop) : Prop where
  vm : Vm w g B cs xss
  en : En cs sb si k oi (.slice (some ⟨pb, po, none⟩) n c) off pos
  hsi : si < 2
  hn : n ≤ 100000
  hoi : oi ≤ 1000000
  hx1 : xs1.length ≤ 1000
  hbase : Bd.Ok B w
  next : ∀ m, Calls Tryz.prog 41 #[.pointer (some ⟨g, 15, none⟩)] (w.drewN m) fun e w' => e = .returned (.bool true) ∧
      (∃ ln : Int, Blk w' w.heap.size 154 #[.int .u8 v, .string nm, .int .i64 ln]) ∧
      Blk w' g 111 (tokSet cs 15 (pos + 1) (off + len : Nat) (.pointer (some ⟨w.heap.size, 0, none⟩)) (.slice dA dn dc)) ∧ Fm (M1 g) w w'
  exec : ∀ w1, Vm w1 g B (tokSet cs 15 (pos + 1) (off + len : Nat) (.pointer (some ⟨w.heap.size, 0, none⟩)) (.slice dA dn dc)) xss → Fs g B w w1 → w1.cell? ⟨w.heap.size, 0, none⟩ = some (.int .u8 v) →
      Calls Tryz.prog 56 #[.pointer (some ⟨g, 0, none⟩), .pointer (some ⟨w.heap.size, 0, none⟩), .slice dA dn dc] w1
        (Ran w1 g B (tokSet cs 15 (pos + 1) (off + len : Nat) (.pointer (some ⟨w.heap.size, 0, none⟩)) (.slice dA dn dc)) k' xs1 G F)

/-- A step that goes on in its script. -/
def StepMid (w : World) (g : Nat) (B : Bd) (cs : Array Value) (sb si k' oi : Nat) (sl : Value) (off : Nat) (pos : Int) (xs1 : List (List UInt8)) (G F : Prop) (e : Ending) (w' : World) : Prop :=
  (e = .returned (.tuple #[.bool false, .nilIface]) ∧ G ∧ ∃ cs', Vm w' g B cs' xs1 ∧ En cs' sb si k' oi sl off pos ∧ Kp cs cs' ∧ Fs g B w w') ∨
  (∃ r, e = .returned (.tuple #[.bool true, r]) ∧ Fault r ∧ F ∧ ∃ cs', Vm w' g B cs' xs1 ∧ Kp cs cs' ∧ Fs g B w w')
/-- A step that ends the last script. -/
def StepEnd (w : World) (g : Nat) (B : Bd) (cs : Array Value) (xs1 : List (List UInt8)) (G F : Prop) (e : Ending) (w' : World) : Prop :=
  (e = .returned (.tuple #[.bool true, .nilIface]) ∧ G ∧ ∃ cs', Vm w' g B cs' xs1 ∧ cs'[12]? = some (.int .i64 2) ∧ cs'[13]? = some (.int .i64 0) ∧ Kp cs cs' ∧ Fs g B w w') ∨
  (∃ r, e = .returned (.tuple #[.bool true, r]) ∧ Fault r ∧ F ∧ ∃ cs', Vm w' g B cs' xs1 ∧ Kp cs cs' ∧ Fs g B w w')
set_option maxHeartbeats 2000000 in
theorem step_any {w : World} {g : Nat} {B : Bd} {cs : Array Value} {xss : List (List UInt8)} {sb si k oi pb po n c off len v k' : Nat} {pos : Int} {nm : ByteArray} {dA : Option Addr} {dn dc : Nat} {xs1 : List (List UInt8)} {G F : Prop}
    (h : StepIn w g B cs xss sb si k oi pb po n c off len v k' pos nm dA dn dc xs1 G F) (hoff0 : off + len < n ∨ (off + len = n ∧ si = 1)) :
    Calls Tryz.prog 35 #[.pointer (some ⟨g, 0, none⟩)] w (fun e w' => (off + len < n ∧ StepMid w g B cs sb si k' (oi + 1) (.slice (some ⟨pb, po, none⟩) n c) (off + len) (pos + 1) xs1 G F e w') ∨ (off + len = n ∧ StepEnd w g B cs xs1 G F e w')) := by
  obtain ⟨hV, hE, hsi, hn, hoi, hx1, hbase, hnext, hexec⟩ := h
  have hbl := hV.blk.lt
  have c11 := (hV.blk.cell 11).trans hE.c11
  have c12 := (hV.blk.cell 12).trans hE.c12
  have HPC := Lib.hid (validPC_any w g sb si hbl hsi c11 c12)
  have HV := Lib.hid hV
  have HE := Lib.hid hE
  have HX := Lib.hid hexec
  have HN := Lib.hid hnext
  clear c11 c12 hV hE hexec hnext
  go_enter Tryz.func35, Tryz.ntmps35
  go_wp2_with fail
  refine HPC.out.mono ?_
  rintro e w1 ⟨rfl, m, rfl⟩
  go_wp2_with fail
  refine (HN.out m).mono ?_
  rintro e w1 ⟨rfl, ⟨ln, hb0⟩, hb1, hf1⟩
  have hV1 := HV.out.turn hb1 hf1 (tok_ne _ _ _ _ _ 23 (by omega))
  have hE1 := HE.out.tok (off + len) (pos + 1) (.pointer (some ⟨w.heap.size, 0, none⟩)) (.slice dA dn dc)
  have hF1 : Fs g B w w1 := Fs.of_m1 hf1
  have d20 := (hb1.cell 20).trans (tok_20 HE.out.c20.choose_spec)
  have d19 := (hb1.cell 19).trans (tok_19 HE.out.c19.choose_spec)
  have hob := hb0.cell 0
  have hbl1 := hb1.lt
  have HC := Lib.hid (HX.out (w1.drewN 1) (hV1.drewN 1) (hF1.drewN 1) hob)
  have HE1 := Lib.hid hE1
  have HF1 := Lib.hid hF1
  have HK1 := Lib.hid (tok_kp cs (pos + 1) (off + len : Nat) (.pointer (some ⟨w.heap.size, 0, none⟩)) (.slice dA dn dc))
  have hdat := data_any w1.drew g 15 dA dn dc d20
  clear hb0 hb1 hf1 hV1 hE1 hF1 hob d20
  generalize tokSet cs 15 (pos + 1) (off + len : Nat) (.pointer (some ⟨w.heap.size, 0, none⟩)) (.slice dA dn dc) = cs1 at *
  go_wp2_with fail
  go_still_tail 10, (by kernel_rfl)
  still_call hdat
  refine wpStill_nil ?_
  change wpList _ _ _ _ _ (w1.drewN 1)
  clear hdat
  clear d19
  go_wp2_with fail
  refine HC.out.mono ?_
  rintro e w2 ⟨r, rfl, hr, cs2, hV2, hK2, h28, hF2⟩
  have HF2 := Lib.hid (HF1.out.trans (((Fs.refl g B w1).drewN 1).trans hF2))
  have HE2 := Lib.hid (HE1.out.k2 hK2 h28)
  have HK2 := Lib.hid (HK1.out.trans (Kp.of_k2 hK2))
  have HV2 := Lib.hid hV2
  clear hV2 hK2 h28 hF2 HC HE1 HK1 HF1 HX HN HPC
  rcases hr with ⟨rfl, hG⟩ | ⟨⟨cd, s, rfl, hc0, hc1⟩, hF⟩
  case inr =>
    have hF := Lib.hid hF
    go_wp2
    go_ret2
    rcases hoff0 with ho | ho
    · exact .inl ⟨ho, .inr ⟨_, rfl, ⟨cd, s, rfl, hc0, hc1⟩, hF.out, cs2, HV2.out, HK2.out, HF2.out⟩⟩
    · exact .inr ⟨ho.1, .inr ⟨_, rfl, ⟨cd, s, rfl, hc0, hc1⟩, hF.out, cs2, HV2.out, HK2.out, HF2.out⟩⟩
  obtain ⟨A2, cc2, items2, h23, -, -⟩ := HV2.out.stk
  have hG := Lib.hid hG
  have hblk2 := HV2.out.blk
  have e23 := (hblk2.cell 23).trans h23
  have e25 := (hblk2.cell 25).trans HE2.out.c25
  have e13 := (hblk2.cell 13).trans HE2.out.c13
  have hbl2 := hblk2.lt
  have hfz2 := hblk2.frozen 13
  clear hblk2 h23
  have hx1' : (xs1.length : Int) ≤ 1000 := by omega
  have hoi1 : (oi : Int) ≤ 1000000 := by omega
  go_wp2_with fail
  go_quiet (first
    | exact Calls.quiet_of_same (depth_q w2 g 23 xs1.length cc2 _ A2 (by omega) e23)
    | exact Calls.quiet_of_same (depth_q w2 g 25 0 0 _ none (by omega) e25))
  go_wp2_with fail
  have hV3 := (HV2.out.drewN nq).set 13 (.int .i64 ((oi : Int) + 1)) (by omega)
  have hE3 := HE2.out.oi (oi + 1) (.int .i64 ((oi : Int) + 1)) (by simp)
  have hF3 := (HF2.out.drewN nq).set 13 (.int .i64 ((oi : Int) + 1))
  have hK3 := HK2.out.set 13 (.int .i64 ((oi : Int) + 1)) (by omega)
  clear e23 e25 e13 hbl2 hfz2 HV2 HE2 HF2 HK2
  generalize (w2.drewN nq).setCell ⟨g, 13, none⟩ (.int .i64 ((oi : Int) + 1)) = w3 at *
  generalize cs2.setIfInBounds 13 (.int .i64 ((oi : Int) + 1)) = cs3 at *
  have hD := Lib.hid (done_any w3 g 15 n c (some ⟨pb, po, none⟩) (off + len : Nat) (by omega) (by omega) (by omega) ((hV3.blk.cell 21).trans hE3.c21) ((hV3.blk.cell 17).trans hE3.c17) ((hV3.blk.cell 15).trans hE3.c15))
  have HV3 := Lib.hid hV3
  have HE3 := Lib.hid hE3
  have HF3 := Lib.hid hF3
  have HK3 := Lib.hid hK3
  clear hV3 hE3 hF3 hK3
  refine hD.out.mono ?_
  rintro e w4 ⟨rfl, m4, rfl⟩
  clear hD
  by_cases hoff : off + len < n
  case pos =>
    have hd : decide ((n : Int) ≤ ((off + len : Nat) : Int)) = false := by simp; omega
    rw [hd]
    clear hd
    go_wp2
    go_ret2
    exact .inl ⟨hoff, .inl ⟨rfl, hG.out, cs3, HV3.out.drewN m4, HE3.out, HK3.out, HF3.out.drewN m4⟩⟩
  have hd : decide ((n : Int) ≤ ((off + len : Nat) : Int)) = true := by simp; omega
  rw [hd]
  clear hd
  have hsi1 : si = 1 := by omega
  subst hsi1
  have hE3 := HE3.out
  have hV4 := HV3.out.drewN m4
  have e27 := (hV4.blk.cell 27).trans hE3.c27
  have e25 := (hV4.blk.cell 25).trans hE3.c25
  have hbl4 := hV4.blk.lt
  have hF4 := HF3.out.drewN m4
  clear HF3 HV3
  generalize w3.drewN m4 = w4 at *
  have HV4 := Lib.hid hV4
  have HF4 := Lib.hid hF4
  clear hV4 hF4 hE3
  go_wp2_with fail
  go_still_tail 7, (by kernel_rfl)
  still_call (depth_q w4 g 25 0 0 1 none (by omega) e25)
  refine wpStill_nil ?_
  change wpList _ _ _ _ _ (w4.drewN 1)
  go_wp2_with fail
  refine (dropN0_any (w4.drewN 1) _).mono ?_
  rintro e w5 ⟨⟨x, rfl⟩, hb5⟩
  have hV5 := (HV4.out.drewN 1).below hb5
  have HF5 := Lib.hid ((HF4.out.drewN 1).below hb5)
  have hE3 := HE3.out
  have b5 := hV5.blk
  have e7 := (b5.cell 7).trans hE3.c7
  have e11 := (b5.cell 11).trans hE3.c11
  have e12 := (b5.cell 12).trans hE3.c12
  have e13 := (b5.cell 13).trans hE3.c13
  have e14' := hE3.c14
  have e14 := (b5.cell 14).trans e14'
  clear e14'
  have e28 := (b5.cell 28).trans hE3.c28
  have e30 := (b5.cell 30).trans hE3.c30
  have hfz := b5.frozen
  have hbl5 := b5.lt
  have HV5 := Lib.hid hV5
  clear hV5 b5 hE3 hb5 e25 e27 hbl4
  go_wp2_with fail
  go_quiet (fail)
  go_wp2_with fail
  go_quiet (fail)
  go_wp2_with fail
  go_ret2
  refine .inr ⟨by omega, .inl ⟨rfl, hG.out, _, (((((HV5.out.set 28 _ (by omega)).set 13 _ (by omega)).set 12 _ (by omega)).drewN _).set 14 _ (by omega)).drewN _, ?_, ?_, (((HK3.out.set 28 _ (by omega)).set 13 _ (by omega)).set 12 _ (by omega)).set 14 _ (by omega), (((((HF5.out.set 28 _).set 13 _).set 12 _).drewN _).set 14 _).drewN _⟩⟩
  · exact get_set (get_here (get_set (get_set HE3.out.c12 (by omega)) (by omega))) (by omega)
  · exact get_set (get_set (get_here (get_set HE3.out.c13 (by omega))) (by omega)) (by omega)
end Go.Proofs.YtkgihpebghmnbaaGreatDoor
