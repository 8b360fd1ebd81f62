/- A new machine, where the first script is empty. SHA-256: one round of a block. SHA-256: a later round. -/
import Derived.Test.YtkgihpebghmnbaaGreatDoorG08
import Derived.Test.YtkgihpebghmnbaaGreatDoorStep
import Derived.Deep.WholeRow
import Derived.Deep.Cut
import Derived.Test.YtkgihpebghmnbaaGreatDoorG02
import Derived.BigQuiet
import Derived.Deep.RegionHeld3
namespace Go.Proofs.YtkgihpebghmnbaaGreatDoor
open Go.RowKit Go.Proofs

set_option maxRecDepth 100000

theorem wpList_store_new {P : Program} {w : World} {ops : Array Oper} {rest : List Oper} {o : Oper} {a : Act} {Q : Exit → Act → World → Prop} (hgd : o.guard = none) (p x : Operand) (t : TypeId)
    (ho : o.op = .store t p x) (hd : o.dst = none) (Z C : Array Value) (hp : a.eval p = .pointer (some ⟨w.heap.size, 0, none⟩)) (hx : a.eval x = .agg C)
    (hi : (P.info? t).map (·.size) = some C.size) (hz : Z.size = C.size) (h1 : C.all (·.oneCell') = true) (h : wpList P ops Q rest a (w.alloc (.cells C t))) :
    wpList P ops Q (o :: rest) a (w.alloc (.cells Z t)) :=
  wpList_plain hgd fun K hK => by
    unfold Oper.wp execOp
    have hs := run_storeAt_new (P := P) w t Z C hi hz h1
    simp only [ho, hp, hx, Sem.run_bind, Sem.run_pure, Result.andThen_ok, hs]
    have e : a.put o.dst undef = a := by rw [hd]; rfl
    exact hK _ _ (by rw [e]; exact h)

theorem wpList_run_value {P : Program} {w w' : World} {ops : Array Oper} {rest : List Oper} {o : Oper} {a : Act} {Q : Exit → Act → World → Prop} (hgd : o.guard = none) (v : Value)
    (hr : (execOp a.eval o).run P w = .ok (.value v) w') (h : wpList P ops Q rest (a.put o.dst v) w') : wpList P ops Q (o :: rest) a w :=
  wpList_plain hgd fun K hK => by
    unfold Oper.wp
    rw [hr]
    exact hK _ _ h
theorem wpList_build {P : Program} {w : World} {ops : Array Oper} {rest : List Oper} {o : Oper} {a : Act} {Q : Exit → Act → World → Prop} (t : TypeId) (fs : Array (Nat × Operand)) (_ho : o.op = .build t fs) (hgd : o.guard = none) (v : Value)
    (hr : (execOp a.eval o).run P w = .ok (.value v) w) (h : wpList P ops Q rest (a.put o.dst v) w) : wpList P ops Q (o :: rest) a w := wpList_run_value hgd v hr h
theorem wpList_alloc {P : Program} {w : World} {ops : Array Oper} {rest : List Oper} {o : Oper} {a : Act} {Q : Exit → Act → World → Prop} (t : TypeId) (_ho : o.op = .alloc t) (hgd : o.guard = none) (Z : Array Value)
    (hr : (execOp a.eval o).run P w = .ok (.value (.pointer (some ⟨w.heap.size, 0, none⟩))) (w.alloc (.cells Z t))) (h : wpList P ops Q rest (a.put o.dst (.pointer (some ⟨w.heap.size, 0, none⟩))) (w.alloc (.cells Z t))) : wpList P ops Q (o :: rest) a w := wpList_run_value hgd _ hr h

theorem info_engine : (Tryz.prog.info? 111).map (·.size) = some 34 := by kernel_rfl

/-- The cells of a machine as it is built. -/
def cells0 (fl : Int) (amount : Int) (fetch : Value) : Array Value :=
  #[.int .u32 fl, .int .i32 0, .slice none 0 0, .slice none 0 0, .int .u32 0, .int .i64 0, .int .u16 0, .bool false, .pointer none, .pointer none, fetch, .slice none 0 0, .int .i64 0, .int .i64 0, .int .i64 0,
    .slice none 0 0, .int .u16 0, .int .i32 0, .int .i32 0, .pointer none, .slice none 0 0, .nilIface, .slice none 0 0, .slice none 0 0, .bool false, .slice none 0 0, .bool false, .slice none 0 0, .int .i64 0, .int .i64 0, .slice none 0 0, .int .i64 amount, .pointer none, .nilFunc]
theorem cells0_one (fl amount : Int) (fty : TypeId) (fx : Value) : (cells0 fl amount (.iface fty fx)).all (·.oneCell') = true := by simp [cells0, Value.oneCell']
/-- The cells of a new machine. -/
def cells1 (fl : Int) (amount : Int) (fetch ver txin txout lock : Value) (sb : Nat) (pub : Value) : Array Value :=
  #[.int .u32 fl, ver, txin, txout, lock, .int .i64 0, .int .u16 0, .bool false, .pointer none, .pointer none, fetch, .slice (some ⟨sb, 0, none⟩) 2 2, .int .i64 1, .int .i64 0, .int .i64 0,
    pub, .int .u16 0, .int .i32 0, .int .i32 (-1), .pointer none, .slice none 0 0, .nilIface, .slice none 0 0, .slice none 0 0, .bool false, .slice none 0 0, .bool false, .slice none 0 0, .int .i64 0, .int .i64 0, .slice none 0 0, .int .i64 amount, .pointer none, .nilFunc]

/-- No flag is set but CHECKLOCKTIMEVERIFY's, or such as no rule of scripts hangs on. -/
structure Flags (fl : Int) : Prop where
  f32 : bits .and .u32 fl 32 = 0
  f1024 : bits .and .u32 fl 1024 = 0
  f1 : bits .and .u32 fl 1 = 0
  f256 : bits .and .u32 fl 256 = 0
  f4096 : bits .and .u32 fl 4096 = 0

theorem flags8 : Flags 8 := ⟨by decide, by decide, by decide, by decide, by decide⟩

theorem cells_fill (fl amount : Int) (fty : TypeId) (fx : Value) (A oA : Option Addr) (n c sb rn rc on oc : Nat) (ver lock : Int) :
    (((((((((((((((cells0 fl amount (.iface fty fx)).setIfInBounds 11 (.slice (some ⟨sb, 0, none⟩) 2 2)).setIfInBounds 12 (.int .i64 1)).setIfInBounds 15 (.slice A n c)).setIfInBounds 16 (.int .u16 0)).setIfInBounds 17 (.int .i32 0)).setIfInBounds 18 (.int .i32 (-1))).setIfInBounds 19 (.pointer none)).setIfInBounds 20 (.slice none 0 0)).setIfInBounds 21 .nilIface).setIfInBounds 1 (.int .i32 ver)).setIfInBounds 2 (.slice (some ⟨rn, 0, none⟩) 1 rc)).setIfInBounds 3 (.slice oA on oc)).setIfInBounds 4 (.int .u32 lock)).setIfInBounds 5 (.int .i64 0)) = cells1 fl amount (.iface fty fx) (.int .i32 ver) (.slice (some ⟨rn, 0, none⟩) 1 rc) (.slice oA on oc) (.int .u32 lock) sb (.slice A n c) := by kernel_rfl

set_option maxHeartbeats 2000000 in
theorem newEngine_any (w : World) (tb ib _sb0 n c cs1 rn rc : Nat) (fl amount : Int) (fty : TypeId) (fx : Value) (A As : Option Addr) (ts : List Tok) (ver _txout lock : Int) (txo : Value) (_icells : Array Value)
    (hfl : Flags fl) (hpub : Rd 0 w (.slice A n c) (code ts)) (hts : ∀ t ∈ ts, TokS t) (hn0 : 0 < n) (hn : n ≤ 10000)
    (htx : Blk w tb 79 #[.int .i32 ver, .slice (some ⟨rn, 0, none⟩) 1 rc, txo, .int .u32 lock])
    (htxo : ∃ A n c, txo = .slice A n c)
    (hrow : w.cell? ⟨rn, 0, none⟩ = some (.pointer (some ⟨ib, 0, none⟩))) (hsig : w.cell? ⟨ib, 33, none⟩ = some (.slice As 0 cs1)) :
    Calls Tryz.prog 32 #[.slice A n c, .pointer (some ⟨tb, 0, none⟩), .int .i64 0, .int .u32 fl, .pointer none, .pointer none, .int .i64 amount, .iface fty fx] w fun e w' =>
      ∃ g sb, e = .returned (.tuple #[.pointer (some ⟨g, 0, none⟩), .nilIface]) ∧ w.heap.size ≤ g ∧ w.heap.size ≤ sb ∧ g < sb ∧
        Blk w' g 111 (cells1 fl amount (.iface fty fx) (.int .i32 ver) (.slice (some ⟨rn, 0, none⟩) 1 rc) txo (.int .u32 lock) sb (.slice A n c)) ∧
        Blk w' sb 30 #[.slice As 0 cs1, .slice A n c] ∧ Below w.heap.size w w' := by
  obtain ⟨oA, on, oc, rfl⟩ := htxo
  have t1 := htx.cell 1
  have htbl := htx.lt
  have hibl := World.block_lt_of_cell? w _ hsig
  have hn1 : ¬ ((n : Int) = 0) := by omega
  have hn2 : ((n : Int) == 0) = false := by simp; omega
  have hn3 : (n : Int) ≤ 10000 := by omega
  have HT := Lib.hid hts
  have HP := Lib.hid hpub
  have HTX := Lib.hid htx
  have HF := Lib.hid hfl
  clear hts hpub htx hfl
  go_enter Tryz.func32, Tryz.ntmps32
  go_wp2_with (refine wpList_build 111 _ rfl rfl (.agg (cells0 fl amount (.iface fty fx))) (by kernel_rfl) ?_; refine Stop.mk ?_)
  refine Stop.go ?_
  go_wp2_with (refine wpList_alloc 111 rfl rfl (cells0 0 0 .nilIface) (by kernel_rfl) ?_; refine Stop.mk ?_)
  refine Stop.go ?_
  refine wpList_store_new (w := w) rfl (.tmp 20) (.tmp 69) 111 rfl rfl _ (cells0 fl amount (.iface fty fx)) rfl rfl info_engine rfl (cells0_one fl amount fty fx) ?_
  have hb1 := Blk.new w 111 (cells0 fl amount (.iface fty fx))
  have hbel1 : Below w.heap.size w (w.alloc (.cells (cells0 fl amount (.iface fty fx)) 111)) := (Below.refl _ _).alloc (Nat.le_refl _) _
  have hsz1 : w.heap.size < (w.alloc (.cells (cells0 fl amount (.iface fty fx)) 111)).heap.size := by simp
  have d0 := hb1.cell 0
  change _ = some (Value.int .u32 fl) at d0
  generalize hgg : w.heap.size = g at hb1 d0 ⊢
  have hg0 : w.heap.size ≤ g := Nat.le_of_eq hgg
  generalize w.alloc (.cells (cells0 fl amount (.iface fty fx)) 111) = W1 at *
  have hbl1 := hb1.lt
  have HB1 := Lib.hid hb1
  have HL1 := Lib.hid hbel1
  clear hb1 hbel1
  go_wp2_with fail
  refine (hasFlag_any W1 g fl 32 0 HF.out.f32 d0).mono ?_
  rintro e w' ⟨rfl, rfl⟩
  go_wp2_with fail
  refine (hasFlag_any W1 g fl 1024 0 HF.out.f1024 d0).mono ?_
  rintro e w' ⟨rfl, rfl⟩
  go_wp2_with fail
  refine (hasFlag_any W1 g fl 1 0 HF.out.f1 d0).mono ?_
  rintro e w' ⟨rfl, rfl⟩
  go_wp2_with fail
  have hb2 := HB1.out.alloc (.cells #[.slice As 0 cs1, .slice A n c] 30)
  have hr2 := Blk.new W1 30 #[.slice As 0 cs1, .slice A n c]
  have hl2 := HL1.out.alloc HL1.out.size (.cells #[.slice As 0 cs1, .slice A n c] 30)
  have hsb : w.heap.size ≤ W1.heap.size := HL1.out.size
  have hgs : g < W1.heap.size := HB1.out.lt
  generalize W1.heap.size = sb at *
  generalize W1.alloc (.cells #[.slice As 0 cs1, .slice A n c] 30) = W2 at *
  have q0 := hr2.cell 0
  change _ = some (Value.slice As 0 cs1) at q0
  have HB2 := Lib.hid hb2
  have HR2 := Lib.hid hr2
  have HL2 := Lib.hid hl2
  clear hb2 hr2 hl2 HB1 HL1 d0
  refine wp_loop_rounds 3 ?_
  rw [rounds_succ]
  go_wp2_with fail
  refine (parses W2 0 cs1 As [] (Rd.nil _ _ _ _) (by simp) (by omega)).mono ?_
  rintro e W3 ⟨rfl, hb3⟩
  have HB3 := Lib.hid (HB2.out.below hb3 HB2.out.lt)
  have HR3 := Lib.hid (HR2.out.below hb3 HR2.out.lt)
  have HL3 := Lib.hid (Below.fm HL2.out (Fm.of_below (M := fun _ => False) hb3) HL2.out.size (fun _ _ h => h))
  clear hb3 HB2 HR2 HL2 q0
  have q1 := HR3.out.cell 1
  change _ = some (Value.slice A n c) at q1
  go_wp2_with fail
  rw [rounds_succ]
  go_wp2_with fail
  refine (parses W3 n c A ts (HP.out.below (B := 0) (w' := W3) HL3.out) HT.out (by omega)).mono ?_
  rintro e W4 ⟨rfl, hb4⟩
  have HB4 := Lib.hid (HB3.out.below hb4 HB3.out.lt)
  have HR4 := Lib.hid (HR3.out.below hb4 HR3.out.lt)
  have HL4 := Lib.hid (Below.fm HL3.out (Fm.of_below (M := fun _ => False) hb4) HL3.out.size (fun _ _ h => h))
  clear hb4 HB3 HR3 HL3 q1
  have e11 := HB4.out.cell 11
  change _ = some (Value.slice none 0 0) at e11
  have e12 := HB4.out.cell 12
  change _ = some (Value.int .i64 0) at e12
  have hfz := HB4.out.frozen
  have hbl4 := HB4.out.lt
  go_wp2_with fail
  rw [rounds_succ]
  go_wp2_with fail
  have hb5 := (HB4.out.set_ 11 (.slice (some ⟨sb, 0, none⟩) 2 2)).set_ 12 (.int .i64 1)
  have hr5 := (HR4.out.far (p := ⟨g, 11, none⟩) (Nat.ne_of_gt hgs) (.slice (some ⟨sb, 0, none⟩) 2 2)).far (p := ⟨g, 12, none⟩) (Nat.ne_of_gt hgs) (.int .i64 1)
  have hl5 := (HL4.out.setCell (p := ⟨g, 11, none⟩) hg0 (.slice (some ⟨sb, 0, none⟩) 2 2)).setCell (p := ⟨g, 12, none⟩) hg0 (.int .i64 1)
  clear e11 e12 hfz hbl4 HB4 HR4 HL4
  generalize (W4.setCell ⟨g, 11, none⟩ (.slice (some ⟨sb, 0, none⟩) 2 2)).setCell ⟨g, 12, none⟩ (.int .i64 1) = W5 at *
  have HB5 := Lib.hid hb5
  have HR5 := Lib.hid hr5
  have HL5 := Lib.hid hl5
  clear hb5 hr5 hl5
  have d0 := HB5.out.cell 0
  change _ = some (Value.int .u32 fl) at d0
  refine (hasFlag_any W5 g fl 256 0 HF.out.f256 d0).mono ?_
  rintro e w' ⟨rfl, rfl⟩
  go_wp2_with fail
  refine (hasFlag_any W5 g fl 4096 0 HF.out.f4096 d0).mono ?_
  rintro e w' ⟨rfl, rfl⟩
  have q1 := HR5.out.cell 1
  change _ = some (Value.slice A n c) at q1
  have e12 := HB5.out.cell 12
  change _ = some (Value.int .i64 1) at e12
  have hbl5 := HB5.out.lt
  go_wp2_with fail
  refine (mkTok_any W5 A n c).mono ?_
  rintro e W6 ⟨rfl, hb6⟩
  have HB6 := Lib.hid (HB5.out.below hb6 HB5.out.lt)
  have HR6 := Lib.hid (HR5.out.below hb6 HR5.out.lt)
  have HL6 := Lib.hid (Below.fm HL5.out (Fm.of_below (M := fun _ => False) hb6) HL5.out.size (fun _ _ h => h))
  clear hb6 HB5 HR5 HL5 q1 e12 d0 hbl5
  have x1 := HB6.out.cell 1
  change _ = some (Value.int .i32 0) at x1
  have x2 := HB6.out.cell 2
  change _ = some (Value.slice none 0 0) at x2
  have x3 := HB6.out.cell 3
  change _ = some (Value.slice none 0 0) at x3
  have x4 := HB6.out.cell 4
  change _ = some (Value.int .u32 0) at x4
  have x5 := HB6.out.cell 5
  change _ = some (Value.int .i64 0) at x5
  have x15 := HB6.out.cell 15
  change _ = some (Value.slice none 0 0) at x15
  have x16 := HB6.out.cell 16
  change _ = some (Value.int .u16 0) at x16
  have x17 := HB6.out.cell 17
  change _ = some (Value.int .i32 0) at x17
  have x18 := HB6.out.cell 18
  change _ = some (Value.int .i32 0) at x18
  have x19 := HB6.out.cell 19
  change _ = some (Value.pointer none) at x19
  have x20 := HB6.out.cell 20
  change _ = some (Value.slice none 0 0) at x20
  have x21 := HB6.out.cell 21
  change _ = some Value.nilIface at x21
  have hfz := HB6.out.frozen
  have hbl6 := HB6.out.lt
  have T6 := HTX.out.below HL6.out HTX.out.lt
  have y0 := T6.cell 0
  change _ = some (Value.int .i32 ver) at y0
  have y1 := T6.cell 1
  change _ = some (Value.slice (some ⟨rn, 0, none⟩) 1 rc) at y1
  have y2 := T6.cell 2
  change _ = some (Value.slice oA on oc) at y2
  have y3 := T6.cell 3
  change _ = some (Value.int .u32 lock) at y3
  have hne : tb ≠ g := by omega
  have hne2 : g ≠ tb := Ne.symm hne
  clear T6
  go_wp2_with fail
  go_ret2
  refine ⟨g, sb, rfl, hg0, hsb, hgs, ?_, ?_, ?_⟩
  · have h := ((((((((((((HB6.out.set_ 15 (.slice A n c)).set_ 16 (.int .u16 0)).set_ 17 (.int .i32 0)).set_ 18 (.int .i32 (-1))).set_ 19 (.pointer none)).set_ 20 (.slice none 0 0)).set_ 21 .nilIface).set_ 1 (.int .i32 ver)).set_ 2 (.slice (some ⟨rn, 0, none⟩) 1 rc)).set_ 3 (.slice oA on oc)).set_ 4 (.int .u32 lock)).set_ 5 (.int .i64 0))
    rw [cells_fill] at h
    exact h
  · exact ((((((((((((HR6.out.far (p := ⟨g, 15, none⟩) (Nat.ne_of_gt hgs) (.slice A n c)).far (p := ⟨g, 16, none⟩) (Nat.ne_of_gt hgs) (.int .u16 0)).far (p := ⟨g, 17, none⟩) (Nat.ne_of_gt hgs) (.int .i32 0)).far (p := ⟨g, 18, none⟩) (Nat.ne_of_gt hgs) (.int .i32 (-1))).far (p := ⟨g, 19, none⟩) (Nat.ne_of_gt hgs) (.pointer none)).far (p := ⟨g, 20, none⟩) (Nat.ne_of_gt hgs) (.slice none 0 0)).far (p := ⟨g, 21, none⟩) (Nat.ne_of_gt hgs) .nilIface).far (p := ⟨g, 1, none⟩) (Nat.ne_of_gt hgs) (.int .i32 ver)).far (p := ⟨g, 2, none⟩) (Nat.ne_of_gt hgs) (.slice (some ⟨rn, 0, none⟩) 1 rc)).far (p := ⟨g, 3, none⟩) (Nat.ne_of_gt hgs) (.slice oA on oc)).far (p := ⟨g, 4, none⟩) (Nat.ne_of_gt hgs) (.int .u32 lock)).far (p := ⟨g, 5, none⟩) (Nat.ne_of_gt hgs) (.int .i64 0))
  · exact ((((((((((((HL6.out.setCell (p := ⟨g, 15, none⟩) hg0 (.slice A n c)).setCell (p := ⟨g, 16, none⟩) hg0 (.int .u16 0)).setCell (p := ⟨g, 17, none⟩) hg0 (.int .i32 0)).setCell (p := ⟨g, 18, none⟩) hg0 (.int .i32 (-1))).setCell (p := ⟨g, 19, none⟩) hg0 (.pointer none)).setCell (p := ⟨g, 20, none⟩) hg0 (.slice none 0 0)).setCell (p := ⟨g, 21, none⟩) hg0 .nilIface).setCell (p := ⟨g, 1, none⟩) hg0 (.int .i32 ver)).setCell (p := ⟨g, 2, none⟩) hg0 (.slice (some ⟨rn, 0, none⟩) 1 rc)).setCell (p := ⟨g, 3, none⟩) hg0 (.slice oA on oc)).setCell (p := ⟨g, 4, none⟩) hg0 (.int .u32 lock)).setCell (p := ⟨g, 5, none⟩) hg0 (.int .i64 0))
end Go.Proofs.YtkgihpebghmnbaaGreatDoor

namespace Go.Proofs.YtkgihpebghmnbaaGreatDoor
open Go.RowKit Go.Proofs

set_option maxRecDepth 100000

def firstLoop : Code → Option Code
  | .loop c => some c
  | .seq a b => match firstLoop a with
    | some c => some c
    | none => firstLoop b
  | .block _ c => firstLoop c
  | .scope c => firstLoop c
  | .cond _ a b => match firstLoop a with
    | some c => some c
    | none => firstLoop b
  | _ => none
noncomputable def shaBody : Code := (((Tryz.f178.body.bind firstLoop).bind firstLoop).getD .skip)

/-- Four bytes as a word. -/
def pack (y0 y1 y2 y3 : Int) : Int := bits .or .u32 (bits .or .u32 (bits .or .u32 (IntKind.u32.wrap (IntKind.u32.wrap y0 * 16777216)) (IntKind.u32.wrap (IntKind.u32.wrap y1 * 65536))) (IntKind.u32.wrap (IntKind.u32.wrap y2 * 256))) (IntKind.u32.wrap y3)
/-- What a round makes. -/
def sumE (e f g h kk wv : Int) : Int := h + bits .xor .u32 (bits .xor .u32 (rotk (-6) e) (rotk (-11) e)) (rotk (-25) e) + bits .xor .u32 (bits .and .u32 e f) (bits .and .u32 (bits .xor .u32 IntKind.u32.max e) g) + kk + wv
def sumA (a bb c : Int) : Int := bits .xor .u32 (bits .xor .u32 (rotk (-2) a) (rotk (-13) a)) (rotk (-22) a) + bits .xor .u32 (bits .xor .u32 (bits .and .u32 a bb) (bits .and .u32 a c)) (bits .and .u32 bb c)
def rndA (a bb c e f g h kk wv : Int) : Int := (sumE e f g h kk wv + sumA a bb c) % 4294967296
def rndE (dd e f g h kk wv : Int) : Int := (dd + sumE e f g h kk wv) % 4294967296
/-- The schedule's next word. -/
def sched (x2 x7 x15 x16 : Int) : Int := IntKind.u32.wrap (IntKind.u32.wrap (IntKind.u32.wrap (bits .xor .u32 (bits .xor .u32 (rotk (-17) x2) (rotk (-19) x2)) (x2 / 1024) + x7) + bits .xor .u32 (bits .xor .u32 (rotk (-7) x15) (rotk (-18) x15)) (x15 / 8)) + x16)
set_option maxRecDepth 1000000 in
set_option maxHeartbeats 4000000 in
theorem sround_lo (w : World) (d wb b o n cp i : Nat) (a bb c dd e f g h kk : Int) (ws : Array Value) (u2 u3 u5 u6 u7 u8 u9 u10 u11 u12 u21 u22 u23 u24 u25 u26 u27 u28 u29 u30 u31 u32 u33 u34 u35 u36 u37 u38 u39 u40 u41 u42 u43 u44 u45 u46 u47 u48 u49 u50 u51 u52 u53 u54 u55 u56 u57 u58 u59 u60 u61 u62 u63 u64 u65 u66 u67 u68 u69 u70 u71 u72 u73 u74 u75 u76 u77 u78 u79 u81 u82 u83 u84 u85 u86 u87 u88 u89 u90 u91 u92 u93 u94 u95 u96 u97 u98 u99 u100 u101 u102 u103 u104 u105 u106 u107 u108 u109 u110 u111 u112 u113 u114 u115 u116 u117 u118 u119 u120 u121 u122 u123 u124 u125 u126 u127 u128 u129 u130 u131 u132 u133 u134 u135 u136 u137 u138 u139 u140 u141 u142 u143 u144 u145 u146 u147 u148 u149 u150 u151 u152 u153 u154 u155 u156 u157 u158 u159 u160 u161 u162 u163 u164 u165 u166 u167 u168 u169 u170 u171 u172 u173 u174 u175 u176 u177 u178 u179 u180 u181 u182 u183 u184 u185 u186 u187 u188 u189 u190 u191 u192 u193 u194 u195 u196 u197 u198 u199 u200 u201 u202 u203 u204 u205 u206 u207 u208 u209 u210 u211 u212 u213 u214 u215 u216 u217 u218 u219 u220 u221 u222 u223 u224 u225 u226 u227 u228 u229 u230 u231 u232 u233 u234 u235 u236 u237 u238 u239 u240 u241 u242 u243 u244 u245 u246 u247 u248 u249 u250 u251 u252 u253 u254 u255 u256 u257 u258 u259 u260 u261 u262 u263 u264 u265 u266 u267 u268 u269 u270 u271 u272 u273 u274 u275 u276 u277 u278 u279 u280 u281 u282 : Value)
    (hws : Blk w wb 349 ws) (hsz : ws.size = 64) (hk : w.cell? ⟨3, i, none⟩ = some (.int .u32 kk)) (hg : 3 ≠ wb) (i64 : i < 64) (i16 : (i : Int) < 16) (y0 y1 y2 y3 : Nat) (hne : b ≠ wb) (hj : 4 * i + 3 < n) (p0 : w.cell? ⟨b, o + 4 * i, none⟩ = some (.int .u8 y0)) (p1 : w.cell? ⟨b, o + (4 * i + 1), none⟩ = some (.int .u8 y1)) (p2 : w.cell? ⟨b, o + (4 * i + 2), none⟩ = some (.int .u8 y2)) (p3 : w.cell? ⟨b, o + (4 * i + 3), none⟩ = some (.int .u8 y3))
    (K : Act → World → Prop) (Q0 : Exit → Act → World → Prop) (hK : ∀ (w2 : World) (v21 v22 v23 v24 v25 v26 v27 v28 v81 v82 v83 v84 v85 v86 v87 v88 v89 v90 v91 v92 v93 v94 v95 v96 v97 v98 v99 v100 v101 v102 v103 v104 v105 v106 v107 v108 v109 v110 v111 v112 v113 v114 v115 v116 v117 v118 v119 v120 v121 v122 v123 v124 v125 v126 v127 v128 v129 v130 v131 v132 v133 v134 v135 v136 v137 v138 v139 v140 v141 v142 v143 v144 v145 v146 v147 v148 v149 v150 v151 v152 v153 v154 v155 v156 v157 v158 v159 v160 v161 v162 v163 v164 v165 v166 v167 v168 v169 v170 v171 v172 v173 v174 v175 v176 v177 v178 v179 v180 v181 v182 v183 v184 v185 v186 v187 v188 v189 v190 v191 v192 v193 v194 v195 v196 v197 v198 v199 v200 v201 v202 v203 v204 v205 v206 v207 v208 v209 v210 v211 v212 v213 v214 v215 v216 : Value), Blk w2 wb 349 (ws.setIfInBounds i (.int .u32 (pack y0 y1 y2 y3))) → Fm (M1 wb) w w2 → K ⟨#[.pointer (some ⟨d, 0, none⟩), .slice (some ⟨b, o, none⟩) n cp, u2, u3, .pointer (some ⟨wb, 0, none⟩), u5, u6, u7, u8, u9, u10, u11, u12, .int .u32 (rndA a bb c e f g h kk (pack y0 y1 y2 y3)), .int .u32 a, .int .u32 bb, .int .u32 c, .int .u32 (rndE dd e f g h kk (pack y0 y1 y2 y3)), .int .u32 e, .int .u32 f, .int .u32 g, v21, v22, v23, v24, v25, v26, v27, v28, u29, u30, u31, u32, u33, u34, u35, u36, u37, u38, u39, u40, u41, u42, u43, u44, u45, u46, u47, u48, u49, u50, u51, u52, u53, u54, u55, u56, u57, u58, u59, u60, u61, u62, u63, u64, u65, u66, u67, u68, u69, u70, u71, u72, u73, u74, u75, u76, u77, u78, u79, .int .i64 ((i : Int) + 1), v81, v82, v83, v84, v85, v86, v87, v88, v89, v90, v91, v92, v93, v94, v95, v96, v97, v98, v99, v100, v101, v102, v103, v104, v105, v106, v107, v108, v109, v110, v111, v112, v113, v114, v115, v116, v117, v118, v119, v120, v121, v122, v123, v124, v125, v126, v127, v128, v129, v130, v131, v132, v133, v134, v135, v136, v137, v138, v139, v140, v141, v142, v143, v144, v145, v146, v147, v148, v149, v150, v151, v152, v153, v154, v155, v156, v157, v158, v159, v160, v161, v162, v163, v164, v165, v166, v167, v168, v169, v170, v171, v172, v173, v174, v175, v176, v177, v178, v179, v180, v181, v182, v183, v184, v185, v186, v187, v188, v189, v190, v191, v192, v193, v194, v195, v196, v197, v198, v199, v200, v201, v202, v203, v204, v205, v206, v207, v208, v209, v210, v211, v212, v213, v214, v215, v216, u217, u218, u219, u220, u221, u222, u223, u224, u225, u226, u227, u228, u229, u230, u231, u232, u233, u234, u235, u236, u237, u238, u239, u240, u241, u242, u243, u244, u245, u246, u247, u248, u249, u250, u251, u252, u253, u254, u255, u256, u257, u258, u259, u260, u261, u262, u263, u264, u265, u266, u267, u268, u269, u270, u271, u272, u273, u274, u275, u276, u277, u278, u279, u280, u281, u282], []⟩ w2) :
    Code.wp Tryz.prog shaBody (Exit.then K Q0) ⟨#[.pointer (some ⟨d, 0, none⟩), .slice (some ⟨b, o, none⟩) n cp, u2, u3, .pointer (some ⟨wb, 0, none⟩), u5, u6, u7, u8, u9, u10, u11, u12, .int .u32 a, .int .u32 bb, .int .u32 c, .int .u32 dd, .int .u32 e, .int .u32 f, .int .u32 g, .int .u32 h, u21, u22, u23, u24, u25, u26, u27, u28, u29, u30, u31, u32, u33, u34, u35, u36, u37, u38, u39, u40, u41, u42, u43, u44, u45, u46, u47, u48, u49, u50, u51, u52, u53, u54, u55, u56, u57, u58, u59, u60, u61, u62, u63, u64, u65, u66, u67, u68, u69, u70, u71, u72, u73, u74, u75, u76, u77, u78, u79, .int .i64 i, u81, u82, u83, u84, u85, u86, u87, u88, u89, u90, u91, u92, u93, u94, u95, u96, u97, u98, u99, u100, u101, u102, u103, u104, u105, u106, u107, u108, u109, u110, u111, u112, u113, u114, u115, u116, u117, u118, u119, u120, u121, u122, u123, u124, u125, u126, u127, u128, u129, u130, u131, u132, u133, u134, u135, u136, u137, u138, u139, u140, u141, u142, u143, u144, u145, u146, u147, u148, u149, u150, u151, u152, u153, u154, u155, u156, u157, u158, u159, u160, u161, u162, u163, u164, u165, u166, u167, u168, u169, u170, u171, u172, u173, u174, u175, u176, u177, u178, u179, u180, u181, u182, u183, u184, u185, u186, u187, u188, u189, u190, u191, u192, u193, u194, u195, u196, u197, u198, u199, u200, u201, u202, u203, u204, u205, u206, u207, u208, u209, u210, u211, u212, u213, u214, u215, u216, u217, u218, u219, u220, u221, u222, u223, u224, u225, u226, u227, u228, u229, u230, u231, u232, u233, u234, u235, u236, u237, u238, u239, u240, u241, u242, u243, u244, u245, u246, u247, u248, u249, u250, u251, u252, u253, u254, u255, u256, u257, u258, u259, u260, u261, u262, u263, u264, u265, u266, u267, u268, u269, u270, u271, u272, u273, u274, u275, u276, u277, u278, u279, u280, u281, u282], []⟩ w := by
  have i1 : (i : Int) < 64 := by omega
  have i0 : (0 : Int) ≤ i := by omega
  have iw : IntKind.i64.wrap ((i : Int) + 1) = (i : Int) + 1 := by simp only [IntKind.wrap_i64]; omega
  conv => arg 2; whnf
  have j0 : (0 : Int) ≤ (i : Int) * 4 := by omega
  have j1 : (0 : Int) ≤ (i : Int) * 4 + 1 := by omega
  have j2 : (0 : Int) ≤ (i : Int) * 4 + 2 := by omega
  have j3 : (0 : Int) ≤ (i : Int) * 4 + 3 := by omega
  have k0 : (i : Int) * 4 < n := by omega
  have k1 : (i : Int) * 4 + 1 < n := by omega
  have k2 : (i : Int) * 4 + 2 < n := by omega
  have k3 : (i : Int) * 4 + 3 < n := by omega
  have w0' : IntKind.i64.wrap ((i : Int) * 4) = (i : Int) * 4 := by simp only [IntKind.wrap_i64]; omega
  have w1' : IntKind.i64.wrap ((i : Int) * 4 + 1) = (i : Int) * 4 + 1 := by simp only [IntKind.wrap_i64]; omega
  have w2' : IntKind.i64.wrap ((i : Int) * 4 + 2) = (i : Int) * 4 + 2 := by simp only [IntKind.wrap_i64]; omega
  have w3' : IntKind.i64.wrap ((i : Int) * 4 + 3) = (i : Int) * 4 + 3 := by simp only [IntKind.wrap_i64]; omega
  have t0 : ((i : Int) * 4).toNat = 4 * i := by omega
  have t1 : ((i : Int) * 4 + 1).toNat = 4 * i + 1 := by omega
  have t2 : ((i : Int) * 4 + 2).toNat = 4 * i + 2 := by omega
  have t3 : ((i : Int) * 4 + 3).toNat = 4 * i + 3 := by omega
  obtain ⟨old, hold⟩ : ∃ old, w.cell? ⟨wb, i, none⟩ = some old := ⟨ws[i]'(by omega), by rw [hws.cell]; exact Array.getElem?_eq_getElem _⟩
  have hfz := hws.frozen i
  have HK := Lib.hid hK
  have HWS := Lib.hid hws
  clear hK hws
  go_wp2_with fail
  go_region_held3 (fun w' => w'.cell? ⟨b, o + 4 * i, none⟩ = some (.int .u8 y0) ∧ w'.cell? ⟨b, o + (4 * i + 1), none⟩ = some (.int .u8 y1) ∧ w'.cell? ⟨b, o + (4 * i + 2), none⟩ = some (.int .u8 y2) ∧ w'.cell? ⟨b, o + (4 * i + 3), none⟩ = some (.int .u8 y3))
    ((first | exact ⟨p0, p1, p2, p3⟩ | exact ⟨(World.cell?_setCell_far _ _ _ _ (Ne.symm hne)).trans p0, (World.cell?_setCell_far _ _ _ _ (Ne.symm hne)).trans p1, (World.cell?_setCell_far _ _ _ _ (Ne.symm hne)).trans p2, (World.cell?_setCell_far _ _ _ _ (Ne.symm hne)).trans p3⟩))
    (fail)
  have hb2 := (HWS.out.set_ i (.int .u32 (pack y0 y1 y2 y3))).drew
  have hf2 : Fm (M1 wb) w (w.setCell ⟨wb, i, none⟩ (.int .u32 (pack y0 y1 y2 y3))).drew := ((Fm.refl _ _).set1 i _).drew
  change Exit.then _ _ _ _ (w.setCell ⟨wb, i, none⟩ (.int .u32 (pack y0 y1 y2 y3))).drew
  have hwv := hb2.cell i
  rw [get_here (by rw [← HWS.out.cell]; exact hold)] at hwv
  generalize (w.setCell ⟨wb, i, none⟩ (.int .u32 (pack y0 y1 y2 y3))).drew = w2 at *
  generalize pack y0 y1 y2 y3 = wv at *
  have HB2 := Lib.hid hb2
  have HF2 := Lib.hid hf2
  have hk2 : w2.cell? ⟨3, i, none⟩ = some (.int .u32 kk) := (World.cell?_of_block (w := w) (hf2.block _ (World.block_lt_of_cell? w _ hk) hg)).trans hk
  clear hb2 hf2 hold hfz hk p0 p1 p2 p3
  go_wp2_with fail
  go_quiet (exact Calls.quiet_of_same (rot_q _ _ _ (by decide)))
  go_wp2_with (refine (rot_all _ _ _ (by decide)).mono ?_; rintro e w' ⟨rfl, rfl⟩)
  exact HK.out _ _ _ _ _ _ _ _ _ _ _ _ _ _ _ _ _ _ _ _ _ _ _ _ _ _ _ _ _ _ _ _ _ _ _ _ _ _ _ _ _ _ _ _ _ _ _ _ _ _ _ _ _ _ _ _ _ _ _ _ _ _ _ _ _ _ _ _ _ _ _ _ _ _ _ _ _ _ _ _ _ _ _ _ _ _ _ _ _ _ _ _ _ _ _ _ _ _ _ _ _ _ _ _ _ _ _ _ _ _ _ _ _ _ _ _ _ _ _ _ _ _ _ _ _ _ _ _ _ _ _ _ _ _ _ _ _ _ _ _ _ _ _ _ _ (HB2.out.drewN _) (HF2.out.drewN _)
end Go.Proofs.YtkgihpebghmnbaaGreatDoor

namespace Go.Proofs.YtkgihpebghmnbaaGreatDoor
open Go.RowKit Go.Proofs

set_option maxRecDepth 100000

set_option maxRecDepth 1000000 in
set_option maxHeartbeats 4000000 in
theorem sround_hi (w : World) (d wb b o n cp i : Nat) (a bb c dd e f g h kk : Int) (ws : Array Value) (u2 u3 u5 u6 u7 u8 u9 u10 u11 u12 u21 u22 u23 u24 u25 u26 u27 u28 u29 u30 u31 u32 u33 u34 u35 u36 u37 u38 u39 u40 u41 u42 u43 u44 u45 u46 u47 u48 u49 u50 u51 u52 u53 u54 u55 u56 u57 u58 u59 u60 u61 u62 u63 u64 u65 u66 u67 u68 u69 u70 u71 u72 u73 u74 u75 u76 u77 u78 u79 u81 u82 u83 u84 u85 u86 u87 u88 u89 u90 u91 u92 u93 u94 u95 u96 u97 u98 u99 u100 u101 u102 u103 u104 u105 u106 u107 u108 u109 u110 u111 u112 u113 u114 u115 u116 u117 u118 u119 u120 u121 u122 u123 u124 u125 u126 u127 u128 u129 u130 u131 u132 u133 u134 u135 u136 u137 u138 u139 u140 u141 u142 u143 u144 u145 u146 u147 u148 u149 u150 u151 u152 u153 u154 u155 u156 u157 u158 u159 u160 u161 u162 u163 u164 u165 u166 u167 u168 u169 u170 u171 u172 u173 u174 u175 u176 u177 u178 u179 u180 u181 u182 u183 u184 u185 u186 u187 u188 u189 u190 u191 u192 u193 u194 u195 u196 u197 u198 u199 u200 u201 u202 u203 u204 u205 u206 u207 u208 u209 u210 u211 u212 u213 u214 u215 u216 u217 u218 u219 u220 u221 u222 u223 u224 u225 u226 u227 u228 u229 u230 u231 u232 u233 u234 u235 u236 u237 u238 u239 u240 u241 u242 u243 u244 u245 u246 u247 u248 u249 u250 u251 u252 u253 u254 u255 u256 u257 u258 u259 u260 u261 u262 u263 u264 u265 u266 u267 u268 u269 u270 u271 u272 u273 u274 u275 u276 u277 u278 u279 u280 u281 u282 : Value)
    (hws : Blk w wb 349 ws) (hsz : ws.size = 64) (hk : w.cell? ⟨3, i, none⟩ = some (.int .u32 kk)) (hg : 3 ≠ wb) (i64 : i < 64) (j : Nat) (hij : i = j + 16) (x2 x7 x15 x16 : Int) (p0 : w.cell? ⟨wb, j + 14, none⟩ = some (.int .u32 x2)) (p1 : w.cell? ⟨wb, j + 9, none⟩ = some (.int .u32 x7)) (p2 : w.cell? ⟨wb, j + 1, none⟩ = some (.int .u32 x15)) (p3 : w.cell? ⟨wb, j, none⟩ = some (.int .u32 x16))
    (K : Act → World → Prop) (Q0 : Exit → Act → World → Prop) (hK : ∀ (w2 : World) (v21 v22 v23 v24 v25 v26 v27 v28 v81 v82 v83 v84 v85 v86 v87 v88 v89 v90 v91 v92 v93 v94 v95 v96 v97 v98 v99 v100 v101 v102 v103 v104 v105 v106 v107 v108 v109 v110 v111 v112 v113 v114 v115 v116 v117 v118 v119 v120 v121 v122 v123 v124 v125 v126 v127 v128 v129 v130 v131 v132 v133 v134 v135 v136 v137 v138 v139 v140 v141 v142 v143 v144 v145 v146 v147 v148 v149 v150 v151 v152 v153 v154 v155 v156 v157 v158 v159 v160 v161 v162 v163 v164 v165 v166 v167 v168 v169 v170 v171 v172 v173 v174 v175 v176 v177 v178 v179 v180 v181 v182 v183 v184 v185 v186 v187 v188 v189 v190 v191 v192 v193 v194 v195 v196 v197 v198 v199 v200 v201 v202 v203 v204 v205 v206 v207 v208 v209 v210 v211 v212 v213 v214 v215 v216 : Value), Blk w2 wb 349 (ws.setIfInBounds i (.int .u32 (sched x2 x7 x15 x16))) → Fm (M1 wb) w w2 → K ⟨#[.pointer (some ⟨d, 0, none⟩), .slice (some ⟨b, o, none⟩) n cp, u2, u3, .pointer (some ⟨wb, 0, none⟩), u5, u6, u7, u8, u9, u10, u11, u12, .int .u32 (rndA a bb c e f g h kk (sched x2 x7 x15 x16)), .int .u32 a, .int .u32 bb, .int .u32 c, .int .u32 (rndE dd e f g h kk (sched x2 x7 x15 x16)), .int .u32 e, .int .u32 f, .int .u32 g, v21, v22, v23, v24, v25, v26, v27, v28, u29, u30, u31, u32, u33, u34, u35, u36, u37, u38, u39, u40, u41, u42, u43, u44, u45, u46, u47, u48, u49, u50, u51, u52, u53, u54, u55, u56, u57, u58, u59, u60, u61, u62, u63, u64, u65, u66, u67, u68, u69, u70, u71, u72, u73, u74, u75, u76, u77, u78, u79, .int .i64 ((i : Int) + 1), v81, v82, v83, v84, v85, v86, v87, v88, v89, v90, v91, v92, v93, v94, v95, v96, v97, v98, v99, v100, v101, v102, v103, v104, v105, v106, v107, v108, v109, v110, v111, v112, v113, v114, v115, v116, v117, v118, v119, v120, v121, v122, v123, v124, v125, v126, v127, v128, v129, v130, v131, v132, v133, v134, v135, v136, v137, v138, v139, v140, v141, v142, v143, v144, v145, v146, v147, v148, v149, v150, v151, v152, v153, v154, v155, v156, v157, v158, v159, v160, v161, v162, v163, v164, v165, v166, v167, v168, v169, v170, v171, v172, v173, v174, v175, v176, v177, v178, v179, v180, v181, v182, v183, v184, v185, v186, v187, v188, v189, v190, v191, v192, v193, v194, v195, v196, v197, v198, v199, v200, v201, v202, v203, v204, v205, v206, v207, v208, v209, v210, v211, v212, v213, v214, v215, v216, u217, u218, u219, u220, u221, u222, u223, u224, u225, u226, u227, u228, u229, u230, u231, u232, u233, u234, u235, u236, u237, u238, u239, u240, u241, u242, u243, u244, u245, u246, u247, u248, u249, u250, u251, u252, u253, u254, u255, u256, u257, u258, u259, u260, u261, u262, u263, u264, u265, u266, u267, u268, u269, u270, u271, u272, u273, u274, u275, u276, u277, u278, u279, u280, u281, u282], []⟩ w2) :
    Code.wp Tryz.prog shaBody (Exit.then K Q0) ⟨#[.pointer (some ⟨d, 0, none⟩), .slice (some ⟨b, o, none⟩) n cp, u2, u3, .pointer (some ⟨wb, 0, none⟩), u5, u6, u7, u8, u9, u10, u11, u12, .int .u32 a, .int .u32 bb, .int .u32 c, .int .u32 dd, .int .u32 e, .int .u32 f, .int .u32 g, .int .u32 h, u21, u22, u23, u24, u25, u26, u27, u28, u29, u30, u31, u32, u33, u34, u35, u36, u37, u38, u39, u40, u41, u42, u43, u44, u45, u46, u47, u48, u49, u50, u51, u52, u53, u54, u55, u56, u57, u58, u59, u60, u61, u62, u63, u64, u65, u66, u67, u68, u69, u70, u71, u72, u73, u74, u75, u76, u77, u78, u79, .int .i64 i, u81, u82, u83, u84, u85, u86, u87, u88, u89, u90, u91, u92, u93, u94, u95, u96, u97, u98, u99, u100, u101, u102, u103, u104, u105, u106, u107, u108, u109, u110, u111, u112, u113, u114, u115, u116, u117, u118, u119, u120, u121, u122, u123, u124, u125, u126, u127, u128, u129, u130, u131, u132, u133, u134, u135, u136, u137, u138, u139, u140, u141, u142, u143, u144, u145, u146, u147, u148, u149, u150, u151, u152, u153, u154, u155, u156, u157, u158, u159, u160, u161, u162, u163, u164, u165, u166, u167, u168, u169, u170, u171, u172, u173, u174, u175, u176, u177, u178, u179, u180, u181, u182, u183, u184, u185, u186, u187, u188, u189, u190, u191, u192, u193, u194, u195, u196, u197, u198, u199, u200, u201, u202, u203, u204, u205, u206, u207, u208, u209, u210, u211, u212, u213, u214, u215, u216, u217, u218, u219, u220, u221, u222, u223, u224, u225, u226, u227, u228, u229, u230, u231, u232, u233, u234, u235, u236, u237, u238, u239, u240, u241, u242, u243, u244, u245, u246, u247, u248, u249, u250, u251, u252, u253, u254, u255, u256, u257, u258, u259, u260, u261, u262, u263, u264, u265, u266, u267, u268, u269, u270, u271, u272, u273, u274, u275, u276, u277, u278, u279, u280, u281, u282], []⟩ w := by
  have i1 : (i : Int) < 64 := by omega
  have i0 : (0 : Int) ≤ i := by omega
  have iw : IntKind.i64.wrap ((i : Int) + 1) = (i : Int) + 1 := by simp only [IntKind.wrap_i64]; omega
  conv => arg 2; whnf
  have i16 : ¬ (i : Int) < 16 := by omega
  have j2 : (0 : Int) ≤ (i : Int) - 2 := by omega
  have j7 : (0 : Int) ≤ (i : Int) - 7 := by omega
  have q7 : (7 : Int) ≤ (i : Int) := by omega
  have j15 : (0 : Int) ≤ (i : Int) - 15 := by omega
  have j16 : (0 : Int) ≤ (i : Int) - 16 := by omega
  have k2 : (i : Int) - 2 < 64 := by omega
  have k7 : (i : Int) - 7 < 64 := by omega
  have k15 : (i : Int) - 15 < 64 := by omega
  have k16 : (i : Int) - 16 < 64 := by omega
  have w2' : IntKind.i64.wrap ((i : Int) - 2) = (i : Int) - 2 := by simp only [IntKind.wrap_i64]; omega
  have w7' : IntKind.i64.wrap ((i : Int) - 7) = (i : Int) - 7 := by simp only [IntKind.wrap_i64]; omega
  have w15' : IntKind.i64.wrap ((i : Int) - 15) = (i : Int) - 15 := by simp only [IntKind.wrap_i64]; omega
  have w16' : IntKind.i64.wrap ((i : Int) - 16) = (i : Int) - 16 := by simp only [IntKind.wrap_i64]; omega
  have t2 : ((i : Int) - 2).toNat = j + 14 := by omega
  have t7 : ((i : Int) - 7).toNat = j + 9 := by omega
  have t15 : ((i : Int) - 15).toNat = j + 1 := by omega
  have t16 : ((i : Int) - 16).toNat = j := by omega
  obtain ⟨old, hold⟩ : ∃ old, w.cell? ⟨wb, i, none⟩ = some old := ⟨ws[i]'(by omega), by rw [hws.cell]; exact Array.getElem?_eq_getElem _⟩
  have hfz := hws.frozen i
  have HK := Lib.hid hK
  have HWS := Lib.hid hws
  have HIJ := Lib.hid hij
  have I64 := Lib.hid i64
  clear hK hws hij i64
  go_wp2_with fail
  refine (rot_all _ _ _ (by decide)).mono ?_
  rintro e w' ⟨rfl, rfl⟩
  go_wp2_with fail
  refine (rot_all _ _ _ (by decide)).mono ?_
  rintro e w' ⟨rfl, rfl⟩
  go_wp2_with fail
  refine (rot_all _ _ _ (by decide)).mono ?_
  rintro e w' ⟨rfl, rfl⟩
  go_wp2_with fail
  refine (rot_all _ _ _ (by decide)).mono ?_
  rintro e w' ⟨rfl, rfl⟩
  go_wp2_with fail
  have hst : ∀ (v : Value), (w.setCell ⟨wb, i, none⟩ v).cell? ⟨wb, j + 9, none⟩ = some (.int .u32 x7) ∧ (w.setCell ⟨wb, i, none⟩ v).cell? ⟨wb, j, none⟩ = some (.int .u32 x16) := fun v => by
    have hij := HIJ.out
    have h1 := (HWS.out.set_ i v).cell (j + 9)
    rw [Array.getElem?_setIfInBounds, if_neg (by omega), ← HWS.out.cell] at h1
    have h2 := (HWS.out.set_ i v).cell j
    rw [Array.getElem?_setIfInBounds, if_neg (by omega), ← HWS.out.cell] at h2
    exact ⟨h1.trans p1, h2.trans p3⟩
  have HST := Lib.hid hst
  clear hst
  go_region_held3 (fun w' => w'.cell? ⟨wb, j + 9, none⟩ = some (.int .u32 x7) ∧ w'.cell? ⟨wb, j, none⟩ = some (.int .u32 x16))
    ((first | exact ⟨p1, p3⟩ | exact HST.out _))
    (fail)
  have hb2 := (HWS.out.set_ i (.int .u32 (sched x2 x7 x15 x16))).drew
  have hf2 : Fm (M1 wb) w (w.setCell ⟨wb, i, none⟩ (.int .u32 (sched x2 x7 x15 x16))).drew := ((Fm.refl _ _).set1 i _).drew
  change Exit.then _ _ _ _ (w.setCell ⟨wb, i, none⟩ (.int .u32 (sched x2 x7 x15 x16))).drew
  have hwv := hb2.cell i
  rw [get_here (by rw [← HWS.out.cell]; exact hold)] at hwv
  generalize (w.setCell ⟨wb, i, none⟩ (.int .u32 (sched x2 x7 x15 x16))).drew = w2 at *
  generalize sched x2 x7 x15 x16 = wv at *
  have HB2 := Lib.hid hb2
  have HF2 := Lib.hid hf2
  have hk2 : w2.cell? ⟨3, i, none⟩ = some (.int .u32 kk) := (World.cell?_of_block (w := w) (hf2.block _ (World.block_lt_of_cell? w _ hk) hg)).trans hk
  clear hb2 hf2 hold hfz hk p0 p1 p2 p3
  go_wp2_with fail
  go_quiet (exact Calls.quiet_of_same (rot_q _ _ _ (by decide)))
  go_wp2_with (refine (rot_all _ _ _ (by decide)).mono ?_; rintro e w' ⟨rfl, rfl⟩)
  exact HK.out _ _ _ _ _ _ _ _ _ _ _ _ _ _ _ _ _ _ _ _ _ _ _ _ _ _ _ _ _ _ _ _ _ _ _ _ _ _ _ _ _ _ _ _ _ _ _ _ _ _ _ _ _ _ _ _ _ _ _ _ _ _ _ _ _ _ _ _ _ _ _ _ _ _ _ _ _ _ _ _ _ _ _ _ _ _ _ _ _ _ _ _ _ _ _ _ _ _ _ _ _ _ _ _ _ _ _ _ _ _ _ _ _ _ _ _ _ _ _ _ _ _ _ _ _ _ _ _ _ _ _ _ _ _ _ _ _ _ _ _ _ _ _ _ _ (HB2.out.drewN _) (HF2.out.drewN _)
end Go.Proofs.YtkgihpebghmnbaaGreatDoor
