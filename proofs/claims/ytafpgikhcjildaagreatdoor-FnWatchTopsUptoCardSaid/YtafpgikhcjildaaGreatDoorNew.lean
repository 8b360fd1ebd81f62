/- A new machine, where the first script is empty. -/
import Derived.Test.YtafpgikhcjildaaGreatDoorParse
import Derived.Test.YtafpgikhcjildaaGreatDoorStep
import Derived.Deep.WholeRow
import Derived.Deep.Cut
namespace Go.Proofs.YtafpgikhcjildaaGreatDoor
open Go.RowKit Go.Proofs

set_option maxRecDepth 100000

theorem wpList_store_new {P : Program} {w : World} {ops : Array Oper} {rest : List Oper} {o : Oper} {a : Act} {Q : Exit → Act → World → Prop} (hgd : o.guard = none) (p x : Operand) (t : TypeId)
    (ho : o.op = .store t p x) (hd : o.dst = none) (Z C : Array Value) (hp : a.eval p = .pointer (some ⟨w.heap.size, 0, none⟩)) (hx : a.eval x = .agg C)
    (hi : (P.info? t).map (·.size) = some C.size) (hz : Z.size = C.size) (h1 : C.all (·.oneCell') = true) (h : wpList P ops Q rest a (w.alloc (.cells C t))) :
    wpList P ops Q (o :: rest) a (w.alloc (.cells Z t)) :=
  wpList_plain hgd fun K hK => by
    unfold Oper.wp execOp
    have hs := run_storeAt_new (P := P) w t Z C hi hz h1
    simp only [ho, hd, hp, hx, Sem.run_bind, Sem.run_pure, Result.andThen_ok, hs]
    have e : a.put o.dst undef = a := by rw [hd]; rfl
    exact hK _ _ (by rw [e]; exact h)

theorem wpList_run_value {P : Program} {w w' : World} {ops : Array Oper} {rest : List Oper} {o : Oper} {a : Act} {Q : Exit → Act → World → Prop} (hgd : o.guard = none) (v : Value)
    (hr : (execOp a.eval o).run P w = .ok (.value v) w') (h : wpList P ops Q rest (a.put o.dst v) w') : wpList P ops Q (o :: rest) a w :=
  wpList_plain hgd fun K hK => by
    unfold Oper.wp
    rw [hr]
    exact hK _ _ h
theorem wpList_build {P : Program} {w : World} {ops : Array Oper} {rest : List Oper} {o : Oper} {a : Act} {Q : Exit → Act → World → Prop} (t : TypeId) (fs : Array (Nat × Operand)) (_ho : o.op = .build t fs) (hgd : o.guard = none) (v : Value)
    (hr : (execOp a.eval o).run P w = .ok (.value v) w) (h : wpList P ops Q rest (a.put o.dst v) w) : wpList P ops Q (o :: rest) a w := wpList_run_value hgd v hr h
theorem wpList_alloc {P : Program} {w : World} {ops : Array Oper} {rest : List Oper} {o : Oper} {a : Act} {Q : Exit → Act → World → Prop} (t : TypeId) (_ho : o.op = .alloc t) (hgd : o.guard = none) (Z : Array Value)
    (hr : (execOp a.eval o).run P w = .ok (.value (.pointer (some ⟨w.heap.size, 0, none⟩))) (w.alloc (.cells Z t))) (h : wpList P ops Q rest (a.put o.dst (.pointer (some ⟨w.heap.size, 0, none⟩))) (w.alloc (.cells Z t))) : wpList P ops Q (o :: rest) a w := wpList_run_value hgd _ hr h

theorem info_engine : (Tryz.prog.info? 84).map (·.size) = some 34 := by kernel_rfl

/-- The cells of a machine as it is built. -/
def cells0 (fl : Int) (amount : Int) (fetch : Value) : Array Value :=
  #[.int .u32 fl, .int .i32 0, .slice none 0 0, .slice none 0 0, .int .u32 0, .int .i64 0, .int .u16 0, .bool false, .pointer none, .pointer none, fetch, .slice none 0 0, .int .i64 0, .int .i64 0, .int .i64 0,
    .slice none 0 0, .int .u16 0, .int .i32 0, .int .i32 0, .pointer none, .slice none 0 0, .nilIface, .slice none 0 0, .slice none 0 0, .bool false, .slice none 0 0, .bool false, .slice none 0 0, .int .i64 0, .int .i64 0, .slice none 0 0, .int .i64 amount, .pointer none, .nilFunc]
theorem cells0_one (fl amount : Int) (fty : TypeId) (fx : Value) : (cells0 fl amount (.iface fty fx)).all (·.oneCell') = true := by simp [cells0, Value.oneCell']
/-- The cells of a new machine. -/
def cells1 (fl : Int) (amount : Int) (fetch ver txin txout lock : Value) (sb : Nat) (pub : Value) : Array Value :=
  #[.int .u32 fl, ver, txin, txout, lock, .int .i64 0, .int .u16 0, .bool false, .pointer none, .pointer none, fetch, .slice (some ⟨sb, 0, none⟩) 2 2, .int .i64 1, .int .i64 0, .int .i64 0,
    pub, .int .u16 0, .int .i32 0, .int .i32 (-1), .pointer none, .slice none 0 0, .nilIface, .slice none 0 0, .slice none 0 0, .bool false, .slice none 0 0, .bool false, .slice none 0 0, .int .i64 0, .int .i64 0, .slice none 0 0, .int .i64 amount, .pointer none, .nilFunc]

/-- No flag is set but CHECKLOCKTIMEVERIFY's, or such as no rule of scripts hangs on. -/
structure Flags (fl : Int) : Prop where
  f32 : bits .and .u32 fl 32 = 0
  f1024 : bits .and .u32 fl 1024 = 0
  f1 : bits .and .u32 fl 1 = 0
  f256 : bits .and .u32 fl 256 = 0
  f4096 : bits .and .u32 fl 4096 = 0

theorem flags8 : Flags 8 := ⟨by decide, by decide, by decide, by decide, by decide⟩

theorem cells_fill (fl amount : Int) (fty : TypeId) (fx : Value) (A oA : Option Addr) (n c sb rn rc on oc : Nat) (ver lock : Int) :
    (((((((((((((((cells0 fl amount (.iface fty fx)).setIfInBounds 11 (.slice (some ⟨sb, 0, none⟩) 2 2)).setIfInBounds 12 (.int .i64 1)).setIfInBounds 15 (.slice A n c)).setIfInBounds 16 (.int .u16 0)).setIfInBounds 17 (.int .i32 0)).setIfInBounds 18 (.int .i32 (-1))).setIfInBounds 19 (.pointer none)).setIfInBounds 20 (.slice none 0 0)).setIfInBounds 21 .nilIface).setIfInBounds 1 (.int .i32 ver)).setIfInBounds 2 (.slice (some ⟨rn, 0, none⟩) 1 rc)).setIfInBounds 3 (.slice oA on oc)).setIfInBounds 4 (.int .u32 lock)).setIfInBounds 5 (.int .i64 0)) = cells1 fl amount (.iface fty fx) (.int .i32 ver) (.slice (some ⟨rn, 0, none⟩) 1 rc) (.slice oA on oc) (.int .u32 lock) sb (.slice A n c) := by kernel_rfl

set_option maxHeartbeats 2000000 in
theorem newEngine_any (w : World) (tb ib sb0 n c cs1 rn rc : Nat) (fl amount : Int) (fty : TypeId) (fx : Value) (A As : Option Addr) (ts : List Tok) (ver txout lock : Int) (txo : Value) (icells : Array Value)
    (hfl : Flags fl) (hpub : Rd 0 w (.slice A n c) (code ts)) (hts : ∀ t ∈ ts, TokS t) (hn0 : 0 < n) (hn : n ≤ 10000)
    (htx : Blk w tb 74 #[.int .i32 ver, .slice (some ⟨rn, 0, none⟩) 1 rc, txo, .int .u32 lock])
    (htxo : ∃ A n c, txo = .slice A n c)
    (hrow : w.cell? ⟨rn, 0, none⟩ = some (.pointer (some ⟨ib, 0, none⟩))) (hsig : w.cell? ⟨ib, 33, none⟩ = some (.slice As 0 cs1)) :
    Calls Tryz.prog 19 #[.slice A n c, .pointer (some ⟨tb, 0, none⟩), .int .i64 0, .int .u32 fl, .pointer none, .pointer none, .int .i64 amount, .iface fty fx] w fun e w' =>
      ∃ g sb, e = .returned (.tuple #[.pointer (some ⟨g, 0, none⟩), .nilIface]) ∧ w.heap.size ≤ g ∧ w.heap.size ≤ sb ∧ g < sb ∧
        Blk w' g 84 (cells1 fl amount (.iface fty fx) (.int .i32 ver) (.slice (some ⟨rn, 0, none⟩) 1 rc) txo (.int .u32 lock) sb (.slice A n c)) ∧
        Blk w' sb 24 #[.slice As 0 cs1, .slice A n c] ∧ Below w.heap.size w w' := by
  obtain ⟨oA, on, oc, rfl⟩ := htxo
  have t1 := htx.cell 1
  have htbl := htx.lt
  have hibl := World.block_lt_of_cell? w _ hsig
  have hn1 : ¬ ((n : Int) = 0) := by omega
  have hn2 : ((n : Int) == 0) = false := by simp; omega
  have hn3 : (n : Int) ≤ 10000 := by omega
  have HT := Lib.hid hts
  have HP := Lib.hid hpub
  have HTX := Lib.hid htx
  have HF := Lib.hid hfl
  clear hts hpub htx hfl
  go_enter Tryz.func19, Tryz.ntmps19
  go_wp2_with (refine wpList_build 84 _ rfl rfl (.agg (cells0 fl amount (.iface fty fx))) (by kernel_rfl) ?_; refine Stop.mk ?_)
  refine Stop.go ?_
  go_wp2_with (refine wpList_alloc 84 rfl rfl (cells0 0 0 .nilIface) (by kernel_rfl) ?_; refine Stop.mk ?_)
  refine Stop.go ?_
  refine wpList_store_new (w := w) rfl (.tmp 20) (.tmp 69) 84 rfl rfl _ (cells0 fl amount (.iface fty fx)) rfl rfl info_engine rfl (cells0_one fl amount fty fx) ?_
  have hb1 := Blk.new w 84 (cells0 fl amount (.iface fty fx))
  have hbel1 : Below w.heap.size w (w.alloc (.cells (cells0 fl amount (.iface fty fx)) 84)) := (Below.refl _ _).alloc (Nat.le_refl _) _
  have hsz1 : w.heap.size < (w.alloc (.cells (cells0 fl amount (.iface fty fx)) 84)).heap.size := by simp
  have d0 := hb1.cell 0
  change _ = some (Value.int .u32 fl) at d0
  generalize hgg : w.heap.size = g at hb1 d0 ⊢
  have hg0 : w.heap.size ≤ g := Nat.le_of_eq hgg
  generalize w.alloc (.cells (cells0 fl amount (.iface fty fx)) 84) = W1 at *
  have hbl1 := hb1.lt
  have HB1 := Lib.hid hb1
  have HL1 := Lib.hid hbel1
  clear hb1 hbel1
  go_wp2_with fail
  refine (hasFlag_any W1 g fl 32 0 HF.out.f32 d0).mono ?_
  rintro e w' ⟨rfl, rfl⟩
  go_wp2_with fail
  refine (hasFlag_any W1 g fl 1024 0 HF.out.f1024 d0).mono ?_
  rintro e w' ⟨rfl, rfl⟩
  go_wp2_with fail
  refine (hasFlag_any W1 g fl 1 0 HF.out.f1 d0).mono ?_
  rintro e w' ⟨rfl, rfl⟩
  go_wp2_with fail
  have hb2 := HB1.out.alloc (.cells #[.slice As 0 cs1, .slice A n c] 24)
  have hr2 := Blk.new W1 24 #[.slice As 0 cs1, .slice A n c]
  have hl2 := HL1.out.alloc HL1.out.size (.cells #[.slice As 0 cs1, .slice A n c] 24)
  have hsb : w.heap.size ≤ W1.heap.size := HL1.out.size
  have hgs : g < W1.heap.size := HB1.out.lt
  generalize W1.heap.size = sb at *
  generalize W1.alloc (.cells #[.slice As 0 cs1, .slice A n c] 24) = W2 at *
  have q0 := hr2.cell 0
  change _ = some (Value.slice As 0 cs1) at q0
  have HB2 := Lib.hid hb2
  have HR2 := Lib.hid hr2
  have HL2 := Lib.hid hl2
  clear hb2 hr2 hl2 HB1 HL1 d0
  refine wp_loop_rounds 3 ?_
  rw [rounds_succ]
  go_wp2_with fail
  refine (parses W2 0 cs1 As [] (Rd.nil _ _ _ _) (by simp) (by omega)).mono ?_
  rintro e W3 ⟨rfl, hb3⟩
  have HB3 := Lib.hid (HB2.out.below hb3 HB2.out.lt)
  have HR3 := Lib.hid (HR2.out.below hb3 HR2.out.lt)
  have HL3 := Lib.hid (Below.fm HL2.out (Fm.of_below (M := fun _ => False) hb3) HL2.out.size (fun _ _ h => h))
  clear hb3 HB2 HR2 HL2 q0
  have q1 := HR3.out.cell 1
  change _ = some (Value.slice A n c) at q1
  go_wp2_with fail
  rw [rounds_succ]
  go_wp2_with fail
  refine (parses W3 n c A ts (HP.out.below (B := 0) (w' := W3) HL3.out) HT.out (by omega)).mono ?_
  rintro e W4 ⟨rfl, hb4⟩
  have HB4 := Lib.hid (HB3.out.below hb4 HB3.out.lt)
  have HR4 := Lib.hid (HR3.out.below hb4 HR3.out.lt)
  have HL4 := Lib.hid (Below.fm HL3.out (Fm.of_below (M := fun _ => False) hb4) HL3.out.size (fun _ _ h => h))
  clear hb4 HB3 HR3 HL3 q1
  have e11 := HB4.out.cell 11
  change _ = some (Value.slice none 0 0) at e11
  have e12 := HB4.out.cell 12
  change _ = some (Value.int .i64 0) at e12
  have hfz := HB4.out.frozen
  have hbl4 := HB4.out.lt
  go_wp2_with fail
  rw [rounds_succ]
  go_wp2_with fail
  have hb5 := (HB4.out.set_ 11 (.slice (some ⟨sb, 0, none⟩) 2 2)).set_ 12 (.int .i64 1)
  have hr5 := (HR4.out.far (p := ⟨g, 11, none⟩) (Nat.ne_of_gt hgs) (.slice (some ⟨sb, 0, none⟩) 2 2)).far (p := ⟨g, 12, none⟩) (Nat.ne_of_gt hgs) (.int .i64 1)
  have hl5 := (HL4.out.setCell (p := ⟨g, 11, none⟩) hg0 (.slice (some ⟨sb, 0, none⟩) 2 2)).setCell (p := ⟨g, 12, none⟩) hg0 (.int .i64 1)
  clear e11 e12 hfz hbl4 HB4 HR4 HL4
  generalize (W4.setCell ⟨g, 11, none⟩ (.slice (some ⟨sb, 0, none⟩) 2 2)).setCell ⟨g, 12, none⟩ (.int .i64 1) = W5 at *
  have HB5 := Lib.hid hb5
  have HR5 := Lib.hid hr5
  have HL5 := Lib.hid hl5
  clear hb5 hr5 hl5
  have d0 := HB5.out.cell 0
  change _ = some (Value.int .u32 fl) at d0
  refine (hasFlag_any W5 g fl 256 0 HF.out.f256 d0).mono ?_
  rintro e w' ⟨rfl, rfl⟩
  go_wp2_with fail
  refine (hasFlag_any W5 g fl 4096 0 HF.out.f4096 d0).mono ?_
  rintro e w' ⟨rfl, rfl⟩
  have q1 := HR5.out.cell 1
  change _ = some (Value.slice A n c) at q1
  have e12 := HB5.out.cell 12
  change _ = some (Value.int .i64 1) at e12
  have hbl5 := HB5.out.lt
  go_wp2_with fail
  refine (mkTok_any W5 A n c).mono ?_
  rintro e W6 ⟨rfl, hb6⟩
  have HB6 := Lib.hid (HB5.out.below hb6 HB5.out.lt)
  have HR6 := Lib.hid (HR5.out.below hb6 HR5.out.lt)
  have HL6 := Lib.hid (Below.fm HL5.out (Fm.of_below (M := fun _ => False) hb6) HL5.out.size (fun _ _ h => h))
  clear hb6 HB5 HR5 HL5 q1 e12 d0 hbl5
  have x1 := HB6.out.cell 1
  change _ = some (Value.int .i32 0) at x1
  have x2 := HB6.out.cell 2
  change _ = some (Value.slice none 0 0) at x2
  have x3 := HB6.out.cell 3
  change _ = some (Value.slice none 0 0) at x3
  have x4 := HB6.out.cell 4
  change _ = some (Value.int .u32 0) at x4
  have x5 := HB6.out.cell 5
  change _ = some (Value.int .i64 0) at x5
  have x15 := HB6.out.cell 15
  change _ = some (Value.slice none 0 0) at x15
  have x16 := HB6.out.cell 16
  change _ = some (Value.int .u16 0) at x16
  have x17 := HB6.out.cell 17
  change _ = some (Value.int .i32 0) at x17
  have x18 := HB6.out.cell 18
  change _ = some (Value.int .i32 0) at x18
  have x19 := HB6.out.cell 19
  change _ = some (Value.pointer none) at x19
  have x20 := HB6.out.cell 20
  change _ = some (Value.slice none 0 0) at x20
  have x21 := HB6.out.cell 21
  change _ = some Value.nilIface at x21
  have hfz := HB6.out.frozen
  have hbl6 := HB6.out.lt
  have T6 := HTX.out.below HL6.out HTX.out.lt
  have y0 := T6.cell 0
  change _ = some (Value.int .i32 ver) at y0
  have y1 := T6.cell 1
  change _ = some (Value.slice (some ⟨rn, 0, none⟩) 1 rc) at y1
  have y2 := T6.cell 2
  change _ = some (Value.slice oA on oc) at y2
  have y3 := T6.cell 3
  change _ = some (Value.int .u32 lock) at y3
  have hne : tb ≠ g := by omega
  have hne2 : g ≠ tb := Ne.symm hne
  clear T6
  go_wp2_with fail
  go_ret2
  refine ⟨g, sb, rfl, hg0, hsb, hgs, ?_, ?_, ?_⟩
  · have h := ((((((((((((HB6.out.set_ 15 (.slice A n c)).set_ 16 (.int .u16 0)).set_ 17 (.int .i32 0)).set_ 18 (.int .i32 (-1))).set_ 19 (.pointer none)).set_ 20 (.slice none 0 0)).set_ 21 .nilIface).set_ 1 (.int .i32 ver)).set_ 2 (.slice (some ⟨rn, 0, none⟩) 1 rc)).set_ 3 (.slice oA on oc)).set_ 4 (.int .u32 lock)).set_ 5 (.int .i64 0))
    rw [cells_fill] at h
    exact h
  · exact ((((((((((((HR6.out.far (p := ⟨g, 15, none⟩) (Nat.ne_of_gt hgs) (.slice A n c)).far (p := ⟨g, 16, none⟩) (Nat.ne_of_gt hgs) (.int .u16 0)).far (p := ⟨g, 17, none⟩) (Nat.ne_of_gt hgs) (.int .i32 0)).far (p := ⟨g, 18, none⟩) (Nat.ne_of_gt hgs) (.int .i32 (-1))).far (p := ⟨g, 19, none⟩) (Nat.ne_of_gt hgs) (.pointer none)).far (p := ⟨g, 20, none⟩) (Nat.ne_of_gt hgs) (.slice none 0 0)).far (p := ⟨g, 21, none⟩) (Nat.ne_of_gt hgs) .nilIface).far (p := ⟨g, 1, none⟩) (Nat.ne_of_gt hgs) (.int .i32 ver)).far (p := ⟨g, 2, none⟩) (Nat.ne_of_gt hgs) (.slice (some ⟨rn, 0, none⟩) 1 rc)).far (p := ⟨g, 3, none⟩) (Nat.ne_of_gt hgs) (.slice oA on oc)).far (p := ⟨g, 4, none⟩) (Nat.ne_of_gt hgs) (.int .u32 lock)).far (p := ⟨g, 5, none⟩) (Nat.ne_of_gt hgs) (.int .i64 0))
  · exact ((((((((((((HL6.out.setCell (p := ⟨g, 15, none⟩) hg0 (.slice A n c)).setCell (p := ⟨g, 16, none⟩) hg0 (.int .u16 0)).setCell (p := ⟨g, 17, none⟩) hg0 (.int .i32 0)).setCell (p := ⟨g, 18, none⟩) hg0 (.int .i32 (-1))).setCell (p := ⟨g, 19, none⟩) hg0 (.pointer none)).setCell (p := ⟨g, 20, none⟩) hg0 (.slice none 0 0)).setCell (p := ⟨g, 21, none⟩) hg0 .nilIface).setCell (p := ⟨g, 1, none⟩) hg0 (.int .i32 ver)).setCell (p := ⟨g, 2, none⟩) hg0 (.slice (some ⟨rn, 0, none⟩) 1 rc)).setCell (p := ⟨g, 3, none⟩) hg0 (.slice oA on oc)).setCell (p := ⟨g, 4, none⟩) hg0 (.int .u32 lock)).setCell (p := ⟨g, 5, none⟩) hg0 (.int .i64 0))
end Go.Proofs.YtafpgikhcjildaaGreatDoor
