/- A transaction of the text, built of one as plain data: one input that is nil but for its sequence, one output. -/
import Derived.Test.YtkgihpebghmnbaaGreatDoorEngine
import Derived.Test.YtkgihpebghmnbaaGreatDoorG07
import Derived.RowKit3
namespace Go.Proofs.YtkgihpebghmnbaaGreatDoor
open Go.RowKit Go.Proofs

set_option maxRecDepth 100000

def zero32 : List Value := [.int .u8 0, .int .u8 0, .int .u8 0, .int .u8 0, .int .u8 0, .int .u8 0, .int .u8 0, .int .u8 0, .int .u8 0, .int .u8 0, .int .u8 0, .int .u8 0, .int .u8 0, .int .u8 0, .int .u8 0, .int .u8 0,
  .int .u8 0, .int .u8 0, .int .u8 0, .int .u8 0, .int .u8 0, .int .u8 0, .int .u8 0, .int .u8 0, .int .u8 0, .int .u8 0, .int .u8 0, .int .u8 0, .int .u8 0, .int .u8 0, .int .u8 0, .int .u8 0]
/-- An outpoint that is nil. -/
def zeroOut : List Value := zero32 ++ [.int .u32 0]

theorem und_hash : Tryz.prog.underlying 22 = some (.array 32 5) := by kernel_rfl
theorem info_hash : (Tryz.prog.info? 22).map (·.size) = some 32 := by kernel_rfl
theorem info_wop : (Tryz.prog.info? 83).map (·.size) = some 33 := by kernel_rfl

theorem outPoint0 (w : World) :
    Calls Tryz.prog 31 #[.agg zeroOut.toArray] w fun e w' => e = .returned (.agg zeroOut.toArray) ∧ Below w.heap.size w w' := by
  go_enter Tryz.func31, Tryz.ntmps31
  go_wp2_with (refine wpList_alloc 83 rfl rfl zeroOut.toArray (by kernel_rfl) ?_; refine Stop.mk ?_)
  refine Stop.go ?_
  have hb1 : Blk ((w.alloc (.cells zeroOut.toArray 40)).alloc (.cells zeroOut.toArray 83)) w.heap.size 40 zeroOut.toArray := (Blk.new w _ _).alloc _
  have hr : ((w.alloc (.cells zeroOut.toArray 40)).alloc (.cells zeroOut.toArray 83)).rangeAt w.heap.size 0 zero32 := fun j v hv => by
    rw [Nat.zero_add, hb1.cell j]
    have hj : j < 32 := (List.getElem?_eq_some_iff.1 hv).1
    rw [List.getElem?_toArray, zeroOut, List.getElem?_append_left hj]
    exact hv
  have h32 : ((w.alloc (.cells zeroOut.toArray 40)).alloc (.cells zeroOut.toArray 83)).cell? ⟨w.heap.size, 32, none⟩ = some (.int .u32 0) := hb1.cell 32
  have HR := Lib.hid hr
  clear hr
  go_wp2_with (refine wpList_load_mid rfl 22 (.tmp 3) rfl w.heap.size 0 rfl zero32 _ HR.out und_hash rfl info_hash ?_; refine Stop.mk ?_)
  refine Stop.go ?_
  go_wp2_with (refine wpList_build 83 _ rfl rfl (.agg zeroOut.toArray) (by kernel_rfl) ?_; refine Stop.mk ?_)
  refine Stop.go ?_
  clear h32 hb1 HR
  have hw1 : w.heap.size + 1 = (w.alloc (.cells zeroOut.toArray 40)).heap.size := by simp
  have hlt : w.heap.size ≤ (w.alloc (.cells zeroOut.toArray 40)).heap.size := by simp
  have hbel : Below w.heap.size w (w.alloc (.cells zeroOut.toArray 40)) := (Below.refl _ _).alloc (Nat.le_refl _) _
  rw [hw1]
  generalize w.alloc (.cells zeroOut.toArray 40) = W1 at *
  refine wpList_store_new (w := W1) rfl (.tmp 2) (.tmp 7) 83 rfl rfl _ zeroOut.toArray rfl rfl info_wop rfl (by simp [zeroOut, zero32, Value.oneCell']) ?_
  have HB := Lib.hid hbel
  clear hbel
  go_wp2
  exact bodyPost_ret (v := .agg zeroOut.toArray) (results_cell_row rfl _ _ W1.heap.size _ _ _ _ rfl (heap_alloc_last W1 _) Tryz.underlying83 rfl info_wop) rfl ⟨rfl, HB.out.alloc hlt _⟩

/-- The input's cells, as plain data. -/
def inCells : List Value := zeroOut ++ [.slice none 0 0, .slice none 0 0, .int .u32 100]
def inZero : List Value := zeroOut ++ [.slice none 0 0, .slice none 0 0, .int .u32 0]
theorem info_in : (Tryz.prog.info? 43).map (·.size) = some 36 := by kernel_rfl

/-- The first cells of the input read as a nil outpoint. -/
def LimS (T5 : Nat) (w' : World) : Prop := w'.rangeAt T5 0 zeroOut
theorem LimS.load {T5 : Nat} {w' : World} (h : LimS T5 w') : (loadCellsFrom ⟨T5, 0, none⟩ 0 33 #[]).run Tryz.prog w' = .ok zeroOut.toArray w' := by
  have := run_loadCells_list (P := Tryz.prog) w' ⟨T5, 0, none⟩ zeroOut (fun j v hv => by rw [Addr.add_mid]; exact h j v hv)
  simp only [loadCells] at this
  exact this
/-- What holds of the world within the input's region: the input's cells, and the frame. -/
def InS (W3 : World) (m T5 : Nat) (w' : World) : Prop := LimS T5 w' ∧ w'.cell? ⟨T5, 33, none⟩ = some (.slice none 0 0) ∧ w'.cell? ⟨T5, 34, none⟩ = some (.slice none 0 0) ∧ w'.cell? ⟨T5, 35, none⟩ = some (.int .u32 100) ∧ Fm (M1 m) W3 w'
theorem InS.of {W3 w' : World} {m T5 : Nat} (h : Blk W3 T5 43 inCells.toArray) (hm : T5 ≠ m) (hf : Fm (M1 m) W3 w') : InS W3 m T5 w' := by
  have hb : Blk w' T5 43 inCells.toArray := h.fm hf hm
  refine ⟨fun j v hv => ?_, hb.cell 33, hb.cell 34, hb.cell 35, hf⟩
  rw [Nat.zero_add, hb.cell j]
  have hj : j < 33 := (List.getElem?_eq_some_iff.1 hv).1
  rw [List.getElem?_toArray, inCells, List.getElem?_append_left hj]
  exact hv
theorem info_out : (Tryz.prog.info? 40).map (·.size) = some zeroOut.length := by kernel_rfl
theorem zeroOut_length : zeroOut.length = 33 := rfl
theorem zeroOut_one : ∀ v ∈ zeroOut, v.oneCell' = true := by simp [zeroOut, zero32, Value.oneCell']

theorem info_pin : (Tryz.prog.info? 80).map (fun i => (i.zero, i.size, i.bytes)) = some (some (.pointer none), 1, 8) := by kernel_rfl

/-- The cells of the text's input. -/
def wIn (A : Option Addr) (c : Nat) : Array Value := (zeroOut ++ [Value.slice A 0 c, Value.slice none 0 0, Value.int .u32 100]).toArray
theorem build_win (A : Option Addr) (c : Nat) (w : World) : (Instr.build 87 #[(0, .agg zeroOut.toArray), (1, .slice A 0 c), (2, .slice none 0 0), (3, .int .u32 100)]).run Tryz.prog w = .ok (.agg (wIn A c)) w := by kernel_rfl
theorem box_win (A : Option Addr) (c : Nat) (w : World) : (Instr.box 87 (.agg (wIn A c))).run Tryz.prog w = .ok (.pointer (some ⟨w.heap.size, 0, none⟩)) (w.alloc (.cells (wIn A c) 87)) := by kernel_rfl
theorem bs_win (p : Option Addr) (w : World) : (Instr.buildSlice 76 1 #[(0, .pointer p)]).run Tryz.prog w = .ok (.slice (some ⟨w.heap.size, 0, none⟩) 1 1) (w.alloc (.cells #[.pointer p] 80)) := by kernel_rfl
theorem load_zo (w : World) (T5 : Nat) (h : LimS T5 w) : (Instr.loadAt 40 (.pointer (some ⟨T5, 0, none⟩))).run Tryz.prog w = .ok (.agg zeroOut.toArray) w :=
  run_loadAt_mid w T5 0 40 zeroOut _ h Tryz.underlying40 rfl info_out
/-- What the world is behind the round over the inputs. -/
def RowS (W3 : World) (m : Nat) (ver lock : Int) (w' : World) : Prop := ∃ rn rc ib A c, Blk w' m 79 #[.int .i32 ver, .slice (some ⟨rn, 0, none⟩) 1 rc, .slice none 0 0, .int .u32 lock] ∧ w'.cell? ⟨rn, 0, none⟩ = some (.pointer (some ⟨ib, 0, none⟩)) ∧ Blk w' ib 87 (wIn A c) ∧ m < rn ∧ m < ib ∧ Fm (M1 m) W3 w'
theorem own_single {w : World} {base : Nat} {e : TypeId} {v x : Value} (h : w.ownsRow base e 1 v (0 + 1) ([] ++ [x])) : ∃ g c, v = .slice (some ⟨g, 0, none⟩) 1 c ∧ base ≤ g ∧ w.cell? ⟨g, 0, none⟩ = some x := by
  have hc := Cells.of_own (A := none) (n := 0 + 1) (c := 0) (w := w) (base := base) (e := e) (vs := [x])
  rcases h.2 with ⟨_, h0⟩ | ⟨g, cap, cur, rfl, hb, hh, hn, hm, hs, ht⟩
  · omega
  · refine ⟨g, cap, rfl, hb, ?_⟩
    obtain ⟨b, o, ho, hj⟩ := (Cells.of_own h).2 (by omega)
    injection ho with ho
    injection ho with h1 h2
    subst h1; subst h2
    exact hj 0 x rfl

/-- What holds of the world within the output's region. -/
def OutS (W6 : World) (m T ro c2 : Nat) (w' : World) : Prop := w'.cell? ⟨T, 2, none⟩ = some (.slice (some ⟨ro, 0, none⟩) 1 c2) ∧ w'.cell? ⟨ro, 0, none⟩ = some (.int .i64 1) ∧ w'.cell? ⟨ro, 1, none⟩ = some (.slice none 0 0) ∧ Fm (M1 m) W6 w'
theorem OutS.of {W6 w' : World} {m T ri ro c1 c2 : Nat} {ver lock : Int} (hx : Blk W6 T 27 #[.int .i32 ver, .slice (some ⟨ri, 0, none⟩) 1 c1, .slice (some ⟨ro, 0, none⟩) 1 c2, .int .u32 lock]) (ho : Blk W6 ro 34 #[.int .i64 1, .slice none 0 0])
    (hT : T ≠ m) (hr : ro ≠ m) (hf : Fm (M1 m) W6 w') : OutS W6 m T ro c2 w' := ⟨(hx.fm hf hT).cell 2, (ho.fm hf hr).cell 0, (ho.fm hf hr).cell 1, hf⟩
/-- What the world is behind the round over the outputs. -/
def RowT (W6 : World) (m rn rc : Nat) (ver lock : Int) (w' : World) : Prop := ∃ A n c, Blk w' m 79 #[.int .i32 ver, .slice (some ⟨rn, 0, none⟩) 1 rc, .slice A n c, .int .u32 lock] ∧ Fm (M1 m) W6 w'
theorem box_wout (A : Option Addr) (c : Nat) (w : World) : (Instr.box 90 (.agg #[.int .i64 1, .slice A 0 c])).run Tryz.prog w = .ok (.pointer (some ⟨w.heap.size, 0, none⟩)) (w.alloc (.cells #[.int .i64 1, .slice A 0 c] 90)) := by kernel_rfl
theorem info_pout : (Tryz.prog.info? 88).map (fun i => (i.zero, i.size, i.bytes)) = some (some (.pointer none), 1, 8) := by kernel_rfl

set_option maxHeartbeats 4000000 in
theorem txOf_any (w : World) (ri ro c1 c2 : Nat) (ver lock : Int) (hin : Blk w ri 43 inCells.toArray) (hout : Blk w ro 34 #[.int .i64 1, .slice none 0 0]) :
    Calls Tryz.prog 19 #[.agg #[.int .i32 ver, .slice (some ⟨ri, 0, none⟩) 1 c1, .slice (some ⟨ro, 0, none⟩) 1 c2, .int .u32 lock]] w fun e w' =>
      ∃ tb ib rn rc As cs1 txo, e = .returned (.pointer (some ⟨tb, 0, none⟩)) ∧ Blk w' tb 79 #[.int .i32 ver, .slice (some ⟨rn, 0, none⟩) 1 rc, txo, .int .u32 lock] ∧ (∃ A n c, txo = .slice A n c) ∧
        w'.cell? ⟨rn, 0, none⟩ = some (.pointer (some ⟨ib, 0, none⟩)) ∧ w'.cell? ⟨ib, 33, none⟩ = some (.slice As 0 cs1) ∧ w'.cell? ⟨ib, 35, none⟩ = some (.int .u32 100) ∧ Below w.heap.size w w' := by
  have HI := Lib.hid hin
  have HO := Lib.hid hout
  clear hin hout
  go_enter Tryz.func19, Tryz.ntmps19
  go_wp2_with fail
  have hT := (Blk.new w 27 #[.int .i32 ver, .slice (some ⟨ri, 0, none⟩) 1 c1, .slice (some ⟨ro, 0, none⟩) 1 c2, .int .u32 lock]).alloc (.cells #[.int .i32 ver, .slice none 0 0, .slice none 0 0, .int .u32 lock] 79)
  have hM := Blk.new (w.alloc (.cells #[.int .i32 ver, .slice (some ⟨ri, 0, none⟩) 1 c1, .slice (some ⟨ro, 0, none⟩) 1 c2, .int .u32 lock] 27)) 79 #[.int .i32 ver, .slice none 0 0, .slice none 0 0, .int .u32 lock]
  have hI2 := (HI.out.alloc (.cells #[.int .i32 ver, .slice (some ⟨ri, 0, none⟩) 1 c1, .slice (some ⟨ro, 0, none⟩) 1 c2, .int .u32 lock] 27)).alloc (.cells #[.int .i32 ver, .slice none 0 0, .slice none 0 0, .int .u32 lock] 79)
  have hO2 := (HO.out.alloc (.cells #[.int .i32 ver, .slice (some ⟨ri, 0, none⟩) 1 c1, .slice (some ⟨ro, 0, none⟩) 1 c2, .int .u32 lock] 27)).alloc (.cells #[.int .i32 ver, .slice none 0 0, .slice none 0 0, .int .u32 lock] 79)
  have hB2 : Below w.heap.size w ((w.alloc (.cells #[.int .i32 ver, .slice (some ⟨ri, 0, none⟩) 1 c1, .slice (some ⟨ro, 0, none⟩) 1 c2, .int .u32 lock] 27)).alloc (.cells #[.int .i32 ver, .slice none 0 0, .slice none 0 0, .int .u32 lock] 79)) :=
    ((Below.refl _ _).alloc (Nat.le_refl _) _).alloc (by simp) _
  have hm1 : (w.alloc (.cells #[.int .i32 ver, .slice (some ⟨ri, 0, none⟩) 1 c1, .slice (some ⟨ro, 0, none⟩) 1 c2, .int .u32 lock] 27)).heap.size = w.heap.size + 1 := by simp
  rw [hm1] at hM
  clear hm1
  have hTm : w.heap.size < w.heap.size + 1 := by omega
  have hmw : w.heap.size ≤ w.heap.size + 1 := by omega
  generalize w.heap.size + 1 = m at *
  generalize hTT : w.heap.size = T at hT hTm ⊢
  generalize (w.alloc (.cells #[.int .i32 ver, .slice (some ⟨ri, 0, none⟩) 1 c1, .slice (some ⟨ro, 0, none⟩) 1 c2, .int .u32 lock] 27)).alloc (.cells #[.int .i32 ver, .slice none 0 0, .slice none 0 0, .int .u32 lock] 79) = W2 at *
  have HT2 := Lib.hid hT
  have HM2 := Lib.hid hM
  have HI2 := Lib.hid hI2
  have HO2 := Lib.hid hO2
  have HB2 := Lib.hid hB2
  have t1 := HT2.out.cell 1
  change _ = some (Value.slice (some ⟨ri, 0, none⟩) 1 c1) at t1
  have hTl := HT2.out.lt
  have hril := HI2.out.lt
  clear hT hM hI2 hO2 hB2 HI HO
  refine wp_loop_rounds 2 ?_
  rw [rounds_succ]
  go_wp2_with (refine wpList_load_row rfl 43 (.tmp 23) rfl ri rfl 43 inCells.toArray (0, 0) _ HI2.out Tryz.underlying43 rfl info_in ?_; refine Stop.mk ?_)
  refine Stop.go ?_
  refine wpList_alloc 43 rfl rfl inZero.toArray (by kernel_rfl) ?_
  refine wpList_store_new (w := W2) rfl (.tmp 5) (.tmp 24) 43 rfl rfl _ inCells.toArray rfl rfl info_in rfl (by simp [inCells, zeroOut, zero32, Value.oneCell']) ?_
  have hT5 := Blk.new W2 43 inCells.toArray
  have hM5 := HM2.out.alloc (.cells inCells.toArray 43)
  have hTx5 := HT2.out.alloc (.cells inCells.toArray 43)
  have hO5 := HO2.out.alloc (.cells inCells.toArray 43)
  have hB5 := HB2.out.alloc HB2.out.size (.cells inCells.toArray 43)
  have hml := hM5.lt
  generalize W2.heap.size = T5 at *
  generalize W2.alloc (.cells inCells.toArray 43) = W3 at *
  have k33 := hT5.cell 33
  change _ = some (Value.slice none 0 0) at k33
  have k34 := hT5.cell 34
  change _ = some (Value.slice none 0 0) at k34
  have k35 := hT5.cell 35
  change _ = some (Value.int .u32 100) at k35
  have m1 := hM5.cell 1
  change _ = some (Value.slice none 0 0) at m1
  have hfm := hM5.frozen 1
  have HT5 := Lib.hid hT5
  have HM5 := Lib.hid hM5
  have HX5 := Lib.hid hTx5
  have HO5 := Lib.hid hO5
  have HB5 := Lib.hid hB5
  have hT5l := hT5.lt
  clear hT5 hM5 hTx5 hO5 hB5 HT2 HM2 HI2 HO2 HB2 t1 hTl hril
  have hne : T5 ≠ m := by
    intro e
    have h1 := HT5.out
    have h2 := HM5.out
    rw [e] at h1
    exact Blk.ne_ h1 h2 (by decide) rfl
  have HS := Lib.hid (fun w' (hf : Fm (M1 m) W3 w') => InS.of HT5.out hne hf)
  have hF0 : Fm (M1 m) W3 W3.drew := (Fm.refl _ _).drew
  have hM0 : Blk W3.drew m 79 #[.int .i32 ver, .slice none 0 0, .slice none 0 0, .int .u32 lock] := HM5.out.drew
  obtain ⟨s1, s2, s3, s4, s5⟩ := HS.out W3 (Fm.refl _ _)
  have hld : ∀ w', LimS T5 w' → (loadCellsFrom ⟨T5, 0, none⟩ 0 33 #[]).run Tryz.prog w' = .ok zeroOut.toArray w' := fun w' h => h.load
  have hfza : ∀ (w : World) (c : Array Value) (t : TypeId) (a : Addr), (w.alloc (.cells c t)).frozen? a = w.frozen? a := fun w c t a => frozen?_alloc_cells w c t a
  go_wp2_with fail
  refine Code.wp_mono (Q := fun e a' w' => e = .normal ∧ (∃ x25 x26 x27 x28 x29 x30 x31 x32 x33 x34 x35 x36 x37 x38 x39 x40 x41 x42 x43 x44 x45 x46 : Value, a' = ⟨#[.agg #[.int .i32 ver, .slice (some ⟨ri, 0, none⟩) 1 c1, .slice (some ⟨ro, 0, none⟩) 1 c2, .int .u32 lock], .pointer (some ⟨T, 0, none⟩), .pointer none, .pointer (some ⟨m, 0, none⟩), .int .i64 0, .pointer (some ⟨T5, 0, none⟩), undef, .pointer (some ⟨T, 0, none⟩), .int .i32 ver, .pointer (some ⟨T, 3, none⟩), .int .u32 lock, .agg #[.int .i32 ver, .slice none 0 0, .slice none 0 0, .int .u32 lock], .pointer (some ⟨m, 0, none⟩), .int .i64 0, .pointer (some ⟨T, 1, none⟩), .slice (some ⟨ri, 0, none⟩) 1 c1, .int .i64 1, .bool true, undef, undef, .pointer (some ⟨T, 1, none⟩), .slice (some ⟨ri, 0, none⟩) 1 c1, .int .i64 0, .pointer (some ⟨ri, 0, none⟩), .agg inCells.toArray, x25, x26, x27, x28, x29, x30, x31, x32, x33, x34, x35, x36, x37, x38, x39, x40, x41, x42, x43, x44, x45, x46, undef, undef, undef, undef, undef, undef, undef, undef, undef, undef, undef, undef, undef, undef, undef, undef, undef, undef, undef, undef, undef, undef, undef, undef, undef, undef, undef, undef, undef, undef, undef, undef], []⟩) ∧ RowS W3 m ver lock w') ?_ ?_
  rotate_left
  obtain ⟨ip, hip, hp0, hp1, hp2⟩ := info_parts info_pin
  · skip
    refine wp_region_held_drew (S := InS W3 m T5) (by kernel_rfl) (HS.out _ hF0) (fun hHeld => ?_)
    refine held_take 0 25 (.pointer (some ⟨m, 0, none⟩)) rfl rfl (by kernel_rfl) (by kernel_rfl) (by kernel_rfl) (fun _ _ _ h => nomatch h.1) (Or.inl ⟨wanted_plain rfl _, fun w hSw => by kernel_rfl⟩) (by assumption) ?_
    simp only [List.set_cons_zero, List.set_cons_succ]
    refine held_take 1 26 (.pointer (some ⟨m, 0, none⟩)) rfl rfl (by kernel_rfl) (by kernel_rfl) (by kernel_rfl) (fun _ _ _ h => nomatch h.1) (Or.inl ⟨wanted_plain rfl _, fun w hSw => by kernel_rfl⟩) (by assumption) ?_
    simp only [List.set_cons_zero, List.set_cons_succ]
    refine held_take 2 27 (.pointer (some ⟨m, 0, none⟩)) rfl rfl (by kernel_rfl) (by kernel_rfl) (by kernel_rfl) (fun _ _ _ h => nomatch h.1) (Or.inl ⟨wanted_plain rfl _, fun w hSw => by kernel_rfl⟩) (by assumption) ?_
    simp only [List.set_cons_zero, List.set_cons_succ]
    refine held_take 3 28 (.pointer (some ⟨m, 1, none⟩)) rfl rfl (by kernel_rfl) (by kernel_rfl) (by kernel_rfl) (fun _ _ _ h => nomatch h.1) (Or.inl ⟨wanted_plain rfl _, fun w hSw => by kernel_rfl⟩) (by assumption) ?_
    simp only [List.set_cons_zero, List.set_cons_succ]
    refine held_take 5 30 (.pointer (some ⟨T5, 0, none⟩)) rfl rfl (by kernel_rfl) (by kernel_rfl) (by kernel_rfl) (fun _ _ _ h => nomatch h.1) (Or.inl ⟨wanted_plain rfl _, fun w hSw => by kernel_rfl⟩) (by assumption) ?_
    simp only [List.set_cons_zero, List.set_cons_succ]
    refine held_take 8 33 (.pointer (some ⟨T5, 33, none⟩)) rfl rfl (by kernel_rfl) (by kernel_rfl) (by kernel_rfl) (fun _ _ _ h => nomatch h.1) (Or.inl ⟨wanted_plain rfl _, fun w hSw => by kernel_rfl⟩) (by assumption) ?_
    simp only [List.set_cons_zero, List.set_cons_succ]
    refine held_take 11 36 (.pointer (some ⟨T5, 34, none⟩)) rfl rfl (by kernel_rfl) (by kernel_rfl) (by kernel_rfl) (fun _ _ _ h => nomatch h.1) (Or.inl ⟨wanted_plain rfl _, fun w hSw => by kernel_rfl⟩) (by assumption) ?_
    simp only [List.set_cons_zero, List.set_cons_succ]
    refine held_take 14 39 (.pointer (some ⟨T5, 35, none⟩)) rfl rfl (by kernel_rfl) (by kernel_rfl) (by kernel_rfl) (fun _ _ _ h => nomatch h.1) (Or.inl ⟨wanted_plain rfl _, fun w hSw => by kernel_rfl⟩) (by assumption) ?_
    simp only [List.set_cons_zero, List.set_cons_succ]
    refine held_take 6 31 (.agg zeroOut.toArray) rfl rfl (by kernel_rfl) (by kernel_rfl) (by kernel_rfl) (fun _ _ _ h => nomatch h.1) (Or.inl ⟨wanted_plain rfl _, fun w hSw => exec_load 40 (.tmp 30) rfl rfl (load_zo w T5 hSw.1)⟩) (by assumption) ?_
    simp only [List.set_cons_zero, List.set_cons_succ]
    refine held_take 9 34 (.slice none 0 0) rfl rfl (by kernel_rfl) (by kernel_rfl) (by kernel_rfl) (fun _ _ _ h => nomatch h.1) (Or.inl ⟨wanted_plain rfl _, fun w hSw => exec_load 30 (.tmp 33) rfl rfl (by (obtain ⟨g1, g2, g3, g4, g5⟩ := hSw; go_simp))⟩) (by assumption) ?_
    simp only [List.set_cons_zero, List.set_cons_succ]
    refine held_take 12 37 (.slice none 0 0) rfl rfl (by kernel_rfl) (by kernel_rfl) (by kernel_rfl) (fun _ _ _ h => nomatch h.1) (Or.inl ⟨wanted_plain rfl _, fun w hSw => exec_load 41 (.tmp 36) rfl rfl (by (obtain ⟨g1, g2, g3, g4, g5⟩ := hSw; go_simp))⟩) (by assumption) ?_
    simp only [List.set_cons_zero, List.set_cons_succ]
    refine held_take 15 40 (.int .u32 100) rfl rfl (by kernel_rfl) (by kernel_rfl) (by kernel_rfl) (fun _ _ _ h => nomatch h.1) (Or.inl ⟨wanted_plain rfl _, fun w hSw => exec_load 25 (.tmp 39) rfl rfl (by (obtain ⟨g1, g2, g3, g4, g5⟩ := hSw; go_simp))⟩) (by assumption) ?_
    simp only [List.set_cons_zero, List.set_cons_succ]
    refine wpAnyH_ready (rs := [4, 7]) (by kernel_rfl) (by simp) ?_
    refine AllReadyH.cons (o := _) rfl (fun K hK => ?_) ?_
    · skip
      have m1 := Blk.cell hM0 1
      change _ = some (Value.slice none 0 0) at m1
      refine step_val 29 (v := .slice none 0 0) rfl rfl (exec_load 76 (.tmp 28) rfl rfl (by go_simp)) ?_
      clear m1
      refine hK.out _ _ (HS.out _ hF0) (fun hHeld => ?_)
      clear hK K
      simp only [List.set_cons_zero, List.set_cons_succ]
      refine wpAnyH_ready (rs := [7]) (by kernel_rfl) (by simp) ?_
      refine AllReadyH.cons (o := _) rfl (fun K hK => ?_) ?_
      · skip
        refine step_enter 32 31 #[.agg zeroOut.toArray] rfl rfl (by kernel_rfl) ?_
        refine (outPoint0 _).mono ?_
        rintro e w4 ⟨rfl, hb4⟩
        have F4 := Fm.below (M := M1 m) (w := W3) hF0 hb4
        have B4 := Blk.step hM0 hb4
        clear hb4
        refine ⟨_, rfl, ?_⟩
        refine hK.out _ _ (HS.out _ F4) (fun hHeld => ?_)
        clear hK K
        simp only [List.set_cons_zero, List.set_cons_succ]
        refine wpAnyH_ready (rs := [10]) (by kernel_rfl) (by simp) ?_
        refine AllReadyH.cons (o := _) rfl (fun K hK => ?_) ?_
        · skip
          refine step_enter 35 18 #[.slice none 0 0] rfl rfl (by kernel_rfl) ?_
          refine (copied_any _ 0 0 0 none [] (Rd.nil _ _ _ _) (by omega)).mono ?_
          rintro e w5 ⟨A5, c5, rfl, -, hb5⟩
          have F5 := Fm.below (M := M1 m) (w := W3) F4 hb5
          have B5 := Blk.step B4 hb5
          clear hb5
          refine ⟨_, rfl, ?_⟩
          refine hK.out _ _ (HS.out _ F5) (fun hHeld => ?_)
          clear hK K
          simp only [List.set_cons_zero, List.set_cons_succ]
          refine wpAnyH_ready (rs := [13]) (by kernel_rfl) (by simp) ?_
          refine AllReadyH.cons (o := _) rfl (fun K hK => ?_) ?_
          · skip
            refine step_enter 38 24 #[.slice none 0 0] rfl rfl (by kernel_rfl) ?_
            refine (copies_nil _ none 0).mono ?_
            rintro e w6 ⟨rfl, rfl⟩
            refine ⟨_, rfl, ?_⟩
            refine hK.out _ _ (HS.out _ F5) (fun hHeld => ?_)
            clear hK K
            simp only [List.set_cons_zero, List.set_cons_succ]
            refine held_take 16 41 (.agg (wIn A5 c5)) rfl rfl (by kernel_rfl) (by kernel_rfl) (by kernel_rfl) (fun _ _ _ h => nomatch h.1) (Or.inl ⟨wanted_plain rfl _, fun w hSw => by kernel_rfl⟩) (by assumption) ?_
            simp only [List.set_cons_zero, List.set_cons_succ]
            refine wpAnyH_ready (rs := [17]) (by kernel_rfl) (by simp) ?_
            refine AllReadyH.cons (o := _) rfl (fun K hK => ?_) ?_
            · skip
              refine step_val 42 rfl rfl (exec_box 87 (.tmp 41) rfl rfl (box_win A5 c5 _)) ?_
              have F7 : Fm (M1 m) W3 (World.alloc w5 (.cells (wIn A5 c5) 87)) := Fm.alloc F5 _
              have B7 := Blk.alloc B5 (.cells (wIn A5 c5) 87)
              have I7 := Blk.new w5 87 (wIn A5 c5)
              have N7 : m < w5.heap.size := Blk.lt B5
              generalize hib : w5.heap.size = ib at *
              generalize hW7 : (World.alloc w5 (.cells (wIn A5 c5) 87)) = W7 at *
              clear hW7
              refine hK.out _ _ (HS.out _ F7) (fun hHeld => ?_)
              clear hK K
              simp only [List.set_cons_zero, List.set_cons_succ]
              refine wpAnyH_ready (rs := [18]) (by kernel_rfl) (by simp) ?_
              refine AllReadyH.cons (o := _) rfl (fun K hK => ?_) ?_
              · skip
                refine step_val 43 rfl rfl (w' := World.alloc W7 (.cells #[.pointer (some ⟨ib, 0, none⟩)] 80)) (v := .slice (some ⟨W7.heap.size, 0, none⟩) 1 1) (by kernel_rfl) ?_
                have F8 : Fm (M1 m) W3 (World.alloc W7 (.cells #[.pointer (some ⟨ib, 0, none⟩)] 80)) := Fm.alloc F7 _
                have B8 := Blk.alloc B7 (.cells #[.pointer (some ⟨ib, 0, none⟩)] 80)
                have I8 := Blk.alloc I7 (.cells #[.pointer (some ⟨ib, 0, none⟩)] 80)
                have C8 := Cells.one W7 (.pointer (some ⟨ib, 0, none⟩)) 80
                generalize hb8 : W7.heap.size = b8 at *
                generalize hW8 : World.alloc W7 (.cells #[.pointer (some ⟨ib, 0, none⟩)] 80) = W8 at *
                clear hW8 hb8
                refine hK.out _ _ (HS.out _ F8) (fun hHeld => ?_)
                clear hK K
                simp only [List.set_cons_zero, List.set_cons_succ]
                refine wpAnyH_ready (rs := [19]) (by kernel_rfl) (by simp) ?_
                refine AllReadyH.cons (o := _) rfl (fun K hK => ?_) ?_
                · skip
                  refine step_app 44 rfl rfl (.tmp 29) (.tmp 43) 76 rfl W8.heap.size 80 ip _ 8 Tryz.underlying76 hip hp0 hp1 hp2 rfl (.slice none 0 0) 0 [] rfl ⟨rfl, .inl ⟨rfl, rfl⟩⟩ (some ⟨b8, 0, none⟩) 1 1 [.pointer (some ⟨ib, 0, none⟩)] rfl C8 (by intro u hu; simp at hu; subst hu; rfl) (by omega) (by omega) (Nat.le_refl _) ?_
                  intro v9 W9 hown hgrow hat
                  obtain ⟨rn, rc, rfl, hrn, hrc⟩ := own_single hown
                  have F9 : Fm (M1 m) W3 W9 := Fm.grown F8 hgrow (fun k _ h => by simp [Value.ownBlock] at h)
                  have B9 := Blk.grown B8 hgrow (by simp [Value.ownBlock])
                  have I9 := Blk.grown I8 hgrow (by simp [Value.ownBlock])
                  have N9 : m < rn := Nat.lt_of_lt_of_le (Blk.lt B8) hrn
                  clear hown hgrow hat C8
                  refine hK.out _ _ (HS.out _ F9) (fun hHeld => ?_)
                  clear hK K
                  simp only [List.set_cons_zero, List.set_cons_succ]
                  refine held_take 20 45 (.pointer (some ⟨m, 0, none⟩)) rfl rfl (by kernel_rfl) (by kernel_rfl) (by kernel_rfl) (fun _ _ _ h => nomatch h.1) (Or.inl ⟨wanted_plain rfl _, fun w hSw => by kernel_rfl⟩) (by assumption) ?_
                  simp only [List.set_cons_zero, List.set_cons_succ]
                  refine held_take 21 46 (.pointer (some ⟨m, 1, none⟩)) rfl rfl (by kernel_rfl) (by kernel_rfl) (by kernel_rfl) (fun _ _ _ h => nomatch h.1) (Or.inl ⟨wanted_plain rfl _, fun w hSw => by kernel_rfl⟩) (by assumption) ?_
                  simp only [List.set_cons_zero, List.set_cons_succ]
                  refine wpAnyH_ready (rs := [22]) (by kernel_rfl) (by simp) ?_
                  refine AllReadyH.cons (o := _) rfl (fun K hK => ?_) ?_
                  · skip
                    have m1 := Blk.cell B9 1
                    change _ = some (Value.slice none 0 0) at m1
                    have mf := Blk.frozen B9 1
                    refine step_skip' (w' := W9.setCell ⟨m, 1, none⟩ (.slice (some ⟨rn, 0, none⟩) 1 rc)) rfl rfl (exec_store 76 (.tmp 46) (.tmp 44) rfl rfl rfl (by go_simp)) ?_
                    have F10 : Fm (M1 m) W3 (W9.setCell ⟨m, 1, none⟩ (.slice (some ⟨rn, 0, none⟩) 1 rc)) := Fm.set1 F9 1 _
                    refine hK.out _ _ (HS.out _ F10) (fun hHeld => ?_)
                    clear hK K
                    refine wpAnyH_done (by kernel_rfl) ?_ _
                    exact ⟨rfl, ⟨_, _, _, _, _, _, _, _, _, _, _, _, _, _, _, _, _, _, _, _, _, _, rfl⟩, rn, rc, ib, A5, c5, B9.set_ 1 _, (World.cell?_setCell_far W9 ⟨m, 1, none⟩ ⟨rn, 0, none⟩ _ (Nat.ne_of_lt N9)).trans hrc, I9.far (p := ⟨m, 1, none⟩) (Nat.ne_of_gt N7) _, N9, N7, F10⟩
                  exact AllReadyH.nil
                exact AllReadyH.nil
              exact AllReadyH.nil
            exact AllReadyH.nil
          exact AllReadyH.nil
        exact AllReadyH.nil
      exact AllReadyH.nil
    refine AllReadyH.cons (o := _) rfl (fun K hK => ?_) ?_
    · skip
      refine step_enter 32 31 #[.agg zeroOut.toArray] rfl rfl (by kernel_rfl) ?_
      refine (outPoint0 _).mono ?_
      rintro e w4 ⟨rfl, hb4⟩
      have F4 := Fm.below (M := M1 m) (w := W3) hF0 hb4
      have B4 := Blk.step hM0 hb4
      clear hb4
      refine ⟨_, rfl, ?_⟩
      refine hK.out _ _ (HS.out _ F4) (fun hHeld => ?_)
      clear hK K
      simp only [List.set_cons_zero, List.set_cons_succ]
      refine wpAnyH_ready (rs := [4, 10]) (by kernel_rfl) (by simp) ?_
      refine AllReadyH.cons (o := _) rfl (fun K hK => ?_) ?_
      · skip
        have m1 := Blk.cell B4 1
        change _ = some (Value.slice none 0 0) at m1
        refine step_val 29 (v := .slice none 0 0) rfl rfl (exec_load 76 (.tmp 28) rfl rfl (by go_simp)) ?_
        clear m1
        refine hK.out _ _ (HS.out _ F4) (fun hHeld => ?_)
        clear hK K
        simp only [List.set_cons_zero, List.set_cons_succ]
        refine wpAnyH_ready (rs := [10]) (by kernel_rfl) (by simp) ?_
        refine AllReadyH.cons (o := _) rfl (fun K hK => ?_) ?_
        · skip
          refine step_enter 35 18 #[.slice none 0 0] rfl rfl (by kernel_rfl) ?_
          refine (copied_any _ 0 0 0 none [] (Rd.nil _ _ _ _) (by omega)).mono ?_
          rintro e w5 ⟨A5, c5, rfl, -, hb5⟩
          have F5 := Fm.below (M := M1 m) (w := W3) F4 hb5
          have B5 := Blk.step B4 hb5
          clear hb5
          refine ⟨_, rfl, ?_⟩
          refine hK.out _ _ (HS.out _ F5) (fun hHeld => ?_)
          clear hK K
          simp only [List.set_cons_zero, List.set_cons_succ]
          refine wpAnyH_ready (rs := [13]) (by kernel_rfl) (by simp) ?_
          refine AllReadyH.cons (o := _) rfl (fun K hK => ?_) ?_
          · skip
            refine step_enter 38 24 #[.slice none 0 0] rfl rfl (by kernel_rfl) ?_
            refine (copies_nil _ none 0).mono ?_
            rintro e w6 ⟨rfl, rfl⟩
            refine ⟨_, rfl, ?_⟩
            refine hK.out _ _ (HS.out _ F5) (fun hHeld => ?_)
            clear hK K
            simp only [List.set_cons_zero, List.set_cons_succ]
            refine held_take 16 41 (.agg (wIn A5 c5)) rfl rfl (by kernel_rfl) (by kernel_rfl) (by kernel_rfl) (fun _ _ _ h => nomatch h.1) (Or.inl ⟨wanted_plain rfl _, fun w hSw => by kernel_rfl⟩) (by assumption) ?_
            simp only [List.set_cons_zero, List.set_cons_succ]
            refine wpAnyH_ready (rs := [17]) (by kernel_rfl) (by simp) ?_
            refine AllReadyH.cons (o := _) rfl (fun K hK => ?_) ?_
            · skip
              refine step_val 42 rfl rfl (exec_box 87 (.tmp 41) rfl rfl (box_win A5 c5 _)) ?_
              have F7 : Fm (M1 m) W3 (World.alloc w5 (.cells (wIn A5 c5) 87)) := Fm.alloc F5 _
              have B7 := Blk.alloc B5 (.cells (wIn A5 c5) 87)
              have I7 := Blk.new w5 87 (wIn A5 c5)
              have N7 : m < w5.heap.size := Blk.lt B5
              generalize hib : w5.heap.size = ib at *
              generalize hW7 : (World.alloc w5 (.cells (wIn A5 c5) 87)) = W7 at *
              clear hW7
              refine hK.out _ _ (HS.out _ F7) (fun hHeld => ?_)
              clear hK K
              simp only [List.set_cons_zero, List.set_cons_succ]
              refine wpAnyH_ready (rs := [18]) (by kernel_rfl) (by simp) ?_
              refine AllReadyH.cons (o := _) rfl (fun K hK => ?_) ?_
              · skip
                refine step_val 43 rfl rfl (w' := World.alloc W7 (.cells #[.pointer (some ⟨ib, 0, none⟩)] 80)) (v := .slice (some ⟨W7.heap.size, 0, none⟩) 1 1) (by kernel_rfl) ?_
                have F8 : Fm (M1 m) W3 (World.alloc W7 (.cells #[.pointer (some ⟨ib, 0, none⟩)] 80)) := Fm.alloc F7 _
                have B8 := Blk.alloc B7 (.cells #[.pointer (some ⟨ib, 0, none⟩)] 80)
                have I8 := Blk.alloc I7 (.cells #[.pointer (some ⟨ib, 0, none⟩)] 80)
                have C8 := Cells.one W7 (.pointer (some ⟨ib, 0, none⟩)) 80
                generalize hb8 : W7.heap.size = b8 at *
                generalize hW8 : World.alloc W7 (.cells #[.pointer (some ⟨ib, 0, none⟩)] 80) = W8 at *
                clear hW8 hb8
                refine hK.out _ _ (HS.out _ F8) (fun hHeld => ?_)
                clear hK K
                simp only [List.set_cons_zero, List.set_cons_succ]
                refine wpAnyH_ready (rs := [19]) (by kernel_rfl) (by simp) ?_
                refine AllReadyH.cons (o := _) rfl (fun K hK => ?_) ?_
                · skip
                  refine step_app 44 rfl rfl (.tmp 29) (.tmp 43) 76 rfl W8.heap.size 80 ip _ 8 Tryz.underlying76 hip hp0 hp1 hp2 rfl (.slice none 0 0) 0 [] rfl ⟨rfl, .inl ⟨rfl, rfl⟩⟩ (some ⟨b8, 0, none⟩) 1 1 [.pointer (some ⟨ib, 0, none⟩)] rfl C8 (by intro u hu; simp at hu; subst hu; rfl) (by omega) (by omega) (Nat.le_refl _) ?_
                  intro v9 W9 hown hgrow hat
                  obtain ⟨rn, rc, rfl, hrn, hrc⟩ := own_single hown
                  have F9 : Fm (M1 m) W3 W9 := Fm.grown F8 hgrow (fun k _ h => by simp [Value.ownBlock] at h)
                  have B9 := Blk.grown B8 hgrow (by simp [Value.ownBlock])
                  have I9 := Blk.grown I8 hgrow (by simp [Value.ownBlock])
                  have N9 : m < rn := Nat.lt_of_lt_of_le (Blk.lt B8) hrn
                  clear hown hgrow hat C8
                  refine hK.out _ _ (HS.out _ F9) (fun hHeld => ?_)
                  clear hK K
                  simp only [List.set_cons_zero, List.set_cons_succ]
                  refine held_take 20 45 (.pointer (some ⟨m, 0, none⟩)) rfl rfl (by kernel_rfl) (by kernel_rfl) (by kernel_rfl) (fun _ _ _ h => nomatch h.1) (Or.inl ⟨wanted_plain rfl _, fun w hSw => by kernel_rfl⟩) (by assumption) ?_
                  simp only [List.set_cons_zero, List.set_cons_succ]
                  refine held_take 21 46 (.pointer (some ⟨m, 1, none⟩)) rfl rfl (by kernel_rfl) (by kernel_rfl) (by kernel_rfl) (fun _ _ _ h => nomatch h.1) (Or.inl ⟨wanted_plain rfl _, fun w hSw => by kernel_rfl⟩) (by assumption) ?_
                  simp only [List.set_cons_zero, List.set_cons_succ]
                  refine wpAnyH_ready (rs := [22]) (by kernel_rfl) (by simp) ?_
                  refine AllReadyH.cons (o := _) rfl (fun K hK => ?_) ?_
                  · skip
                    have m1 := Blk.cell B9 1
                    change _ = some (Value.slice none 0 0) at m1
                    have mf := Blk.frozen B9 1
                    refine step_skip' (w' := W9.setCell ⟨m, 1, none⟩ (.slice (some ⟨rn, 0, none⟩) 1 rc)) rfl rfl (exec_store 76 (.tmp 46) (.tmp 44) rfl rfl rfl (by go_simp)) ?_
                    have F10 : Fm (M1 m) W3 (W9.setCell ⟨m, 1, none⟩ (.slice (some ⟨rn, 0, none⟩) 1 rc)) := Fm.set1 F9 1 _
                    refine hK.out _ _ (HS.out _ F10) (fun hHeld => ?_)
                    clear hK K
                    refine wpAnyH_done (by kernel_rfl) ?_ _
                    exact ⟨rfl, ⟨_, _, _, _, _, _, _, _, _, _, _, _, _, _, _, _, _, _, _, _, _, _, rfl⟩, rn, rc, ib, A5, c5, B9.set_ 1 _, (World.cell?_setCell_far W9 ⟨m, 1, none⟩ ⟨rn, 0, none⟩ _ (Nat.ne_of_lt N9)).trans hrc, I9.far (p := ⟨m, 1, none⟩) (Nat.ne_of_gt N7) _, N9, N7, F10⟩
                  exact AllReadyH.nil
                exact AllReadyH.nil
              exact AllReadyH.nil
            exact AllReadyH.nil
          exact AllReadyH.nil
        exact AllReadyH.nil
      refine AllReadyH.cons (o := _) rfl (fun K hK => ?_) ?_
      · skip
        refine step_enter 35 18 #[.slice none 0 0] rfl rfl (by kernel_rfl) ?_
        refine (copied_any _ 0 0 0 none [] (Rd.nil _ _ _ _) (by omega)).mono ?_
        rintro e w5 ⟨A5, c5, rfl, -, hb5⟩
        have F5 := Fm.below (M := M1 m) (w := W3) F4 hb5
        have B5 := Blk.step B4 hb5
        clear hb5
        refine ⟨_, rfl, ?_⟩
        refine hK.out _ _ (HS.out _ F5) (fun hHeld => ?_)
        clear hK K
        simp only [List.set_cons_zero, List.set_cons_succ]
        refine wpAnyH_ready (rs := [4, 13]) (by kernel_rfl) (by simp) ?_
        refine AllReadyH.cons (o := _) rfl (fun K hK => ?_) ?_
        · skip
          have m1 := Blk.cell B5 1
          change _ = some (Value.slice none 0 0) at m1
          refine step_val 29 (v := .slice none 0 0) rfl rfl (exec_load 76 (.tmp 28) rfl rfl (by go_simp)) ?_
          clear m1
          refine hK.out _ _ (HS.out _ F5) (fun hHeld => ?_)
          clear hK K
          simp only [List.set_cons_zero, List.set_cons_succ]
          refine wpAnyH_ready (rs := [13]) (by kernel_rfl) (by simp) ?_
          refine AllReadyH.cons (o := _) rfl (fun K hK => ?_) ?_
          · skip
            refine step_enter 38 24 #[.slice none 0 0] rfl rfl (by kernel_rfl) ?_
            refine (copies_nil _ none 0).mono ?_
            rintro e w6 ⟨rfl, rfl⟩
            refine ⟨_, rfl, ?_⟩
            refine hK.out _ _ (HS.out _ F5) (fun hHeld => ?_)
            clear hK K
            simp only [List.set_cons_zero, List.set_cons_succ]
            refine held_take 16 41 (.agg (wIn A5 c5)) rfl rfl (by kernel_rfl) (by kernel_rfl) (by kernel_rfl) (fun _ _ _ h => nomatch h.1) (Or.inl ⟨wanted_plain rfl _, fun w hSw => by kernel_rfl⟩) (by assumption) ?_
            simp only [List.set_cons_zero, List.set_cons_succ]
            refine wpAnyH_ready (rs := [17]) (by kernel_rfl) (by simp) ?_
            refine AllReadyH.cons (o := _) rfl (fun K hK => ?_) ?_
            · skip
              refine step_val 42 rfl rfl (exec_box 87 (.tmp 41) rfl rfl (box_win A5 c5 _)) ?_
              have F7 : Fm (M1 m) W3 (World.alloc w5 (.cells (wIn A5 c5) 87)) := Fm.alloc F5 _
              have B7 := Blk.alloc B5 (.cells (wIn A5 c5) 87)
              have I7 := Blk.new w5 87 (wIn A5 c5)
              have N7 : m < w5.heap.size := Blk.lt B5
              generalize hib : w5.heap.size = ib at *
              generalize hW7 : (World.alloc w5 (.cells (wIn A5 c5) 87)) = W7 at *
              clear hW7
              refine hK.out _ _ (HS.out _ F7) (fun hHeld => ?_)
              clear hK K
              simp only [List.set_cons_zero, List.set_cons_succ]
              refine wpAnyH_ready (rs := [18]) (by kernel_rfl) (by simp) ?_
              refine AllReadyH.cons (o := _) rfl (fun K hK => ?_) ?_
              · skip
                refine step_val 43 rfl rfl (w' := World.alloc W7 (.cells #[.pointer (some ⟨ib, 0, none⟩)] 80)) (v := .slice (some ⟨W7.heap.size, 0, none⟩) 1 1) (by kernel_rfl) ?_
                have F8 : Fm (M1 m) W3 (World.alloc W7 (.cells #[.pointer (some ⟨ib, 0, none⟩)] 80)) := Fm.alloc F7 _
                have B8 := Blk.alloc B7 (.cells #[.pointer (some ⟨ib, 0, none⟩)] 80)
                have I8 := Blk.alloc I7 (.cells #[.pointer (some ⟨ib, 0, none⟩)] 80)
                have C8 := Cells.one W7 (.pointer (some ⟨ib, 0, none⟩)) 80
                generalize hb8 : W7.heap.size = b8 at *
                generalize hW8 : World.alloc W7 (.cells #[.pointer (some ⟨ib, 0, none⟩)] 80) = W8 at *
                clear hW8 hb8
                refine hK.out _ _ (HS.out _ F8) (fun hHeld => ?_)
                clear hK K
                simp only [List.set_cons_zero, List.set_cons_succ]
                refine wpAnyH_ready (rs := [19]) (by kernel_rfl) (by simp) ?_
                refine AllReadyH.cons (o := _) rfl (fun K hK => ?_) ?_
                · skip
                  refine step_app 44 rfl rfl (.tmp 29) (.tmp 43) 76 rfl W8.heap.size 80 ip _ 8 Tryz.underlying76 hip hp0 hp1 hp2 rfl (.slice none 0 0) 0 [] rfl ⟨rfl, .inl ⟨rfl, rfl⟩⟩ (some ⟨b8, 0, none⟩) 1 1 [.pointer (some ⟨ib, 0, none⟩)] rfl C8 (by intro u hu; simp at hu; subst hu; rfl) (by omega) (by omega) (Nat.le_refl _) ?_
                  intro v9 W9 hown hgrow hat
                  obtain ⟨rn, rc, rfl, hrn, hrc⟩ := own_single hown
                  have F9 : Fm (M1 m) W3 W9 := Fm.grown F8 hgrow (fun k _ h => by simp [Value.ownBlock] at h)
                  have B9 := Blk.grown B8 hgrow (by simp [Value.ownBlock])
                  have I9 := Blk.grown I8 hgrow (by simp [Value.ownBlock])
                  have N9 : m < rn := Nat.lt_of_lt_of_le (Blk.lt B8) hrn
                  clear hown hgrow hat C8
                  refine hK.out _ _ (HS.out _ F9) (fun hHeld => ?_)
                  clear hK K
                  simp only [List.set_cons_zero, List.set_cons_succ]
                  refine held_take 20 45 (.pointer (some ⟨m, 0, none⟩)) rfl rfl (by kernel_rfl) (by kernel_rfl) (by kernel_rfl) (fun _ _ _ h => nomatch h.1) (Or.inl ⟨wanted_plain rfl _, fun w hSw => by kernel_rfl⟩) (by assumption) ?_
                  simp only [List.set_cons_zero, List.set_cons_succ]
                  refine held_take 21 46 (.pointer (some ⟨m, 1, none⟩)) rfl rfl (by kernel_rfl) (by kernel_rfl) (by kernel_rfl) (fun _ _ _ h => nomatch h.1) (Or.inl ⟨wanted_plain rfl _, fun w hSw => by kernel_rfl⟩) (by assumption) ?_
                  simp only [List.set_cons_zero, List.set_cons_succ]
                  refine wpAnyH_ready (rs := [22]) (by kernel_rfl) (by simp) ?_
                  refine AllReadyH.cons (o := _) rfl (fun K hK => ?_) ?_
                  · skip
                    have m1 := Blk.cell B9 1
                    change _ = some (Value.slice none 0 0) at m1
                    have mf := Blk.frozen B9 1
                    refine step_skip' (w' := W9.setCell ⟨m, 1, none⟩ (.slice (some ⟨rn, 0, none⟩) 1 rc)) rfl rfl (exec_store 76 (.tmp 46) (.tmp 44) rfl rfl rfl (by go_simp)) ?_
                    have F10 : Fm (M1 m) W3 (W9.setCell ⟨m, 1, none⟩ (.slice (some ⟨rn, 0, none⟩) 1 rc)) := Fm.set1 F9 1 _
                    refine hK.out _ _ (HS.out _ F10) (fun hHeld => ?_)
                    clear hK K
                    refine wpAnyH_done (by kernel_rfl) ?_ _
                    exact ⟨rfl, ⟨_, _, _, _, _, _, _, _, _, _, _, _, _, _, _, _, _, _, _, _, _, _, rfl⟩, rn, rc, ib, A5, c5, B9.set_ 1 _, (World.cell?_setCell_far W9 ⟨m, 1, none⟩ ⟨rn, 0, none⟩ _ (Nat.ne_of_lt N9)).trans hrc, I9.far (p := ⟨m, 1, none⟩) (Nat.ne_of_gt N7) _, N9, N7, F10⟩
                  exact AllReadyH.nil
                exact AllReadyH.nil
              exact AllReadyH.nil
            exact AllReadyH.nil
          exact AllReadyH.nil
        refine AllReadyH.cons (o := _) rfl (fun K hK => ?_) ?_
        · skip
          refine step_enter 38 24 #[.slice none 0 0] rfl rfl (by kernel_rfl) ?_
          refine (copies_nil _ none 0).mono ?_
          rintro e w6 ⟨rfl, rfl⟩
          refine ⟨_, rfl, ?_⟩
          refine hK.out _ _ (HS.out _ F5) (fun hHeld => ?_)
          clear hK K
          simp only [List.set_cons_zero, List.set_cons_succ]
          refine held_take 16 41 (.agg (wIn A5 c5)) rfl rfl (by kernel_rfl) (by kernel_rfl) (by kernel_rfl) (fun _ _ _ h => nomatch h.1) (Or.inl ⟨wanted_plain rfl _, fun w hSw => by kernel_rfl⟩) (by assumption) ?_
          simp only [List.set_cons_zero, List.set_cons_succ]
          refine wpAnyH_ready (rs := [4, 17]) (by kernel_rfl) (by simp) ?_
          refine AllReadyH.cons (o := _) rfl (fun K hK => ?_) ?_
          · skip
            have m1 := Blk.cell B5 1
            change _ = some (Value.slice none 0 0) at m1
            refine step_val 29 (v := .slice none 0 0) rfl rfl (exec_load 76 (.tmp 28) rfl rfl (by go_simp)) ?_
            clear m1
            refine hK.out _ _ (HS.out _ F5) (fun hHeld => ?_)
            clear hK K
            simp only [List.set_cons_zero, List.set_cons_succ]
            refine wpAnyH_ready (rs := [17]) (by kernel_rfl) (by simp) ?_
            refine AllReadyH.cons (o := _) rfl (fun K hK => ?_) ?_
            · skip
              refine step_val 42 rfl rfl (exec_box 87 (.tmp 41) rfl rfl (box_win A5 c5 _)) ?_
              have F7 : Fm (M1 m) W3 (World.alloc w5 (.cells (wIn A5 c5) 87)) := Fm.alloc F5 _
              have B7 := Blk.alloc B5 (.cells (wIn A5 c5) 87)
              have I7 := Blk.new w5 87 (wIn A5 c5)
              have N7 : m < w5.heap.size := Blk.lt B5
              generalize hib : w5.heap.size = ib at *
              generalize hW7 : (World.alloc w5 (.cells (wIn A5 c5) 87)) = W7 at *
              clear hW7
              refine hK.out _ _ (HS.out _ F7) (fun hHeld => ?_)
              clear hK K
              simp only [List.set_cons_zero, List.set_cons_succ]
              refine wpAnyH_ready (rs := [18]) (by kernel_rfl) (by simp) ?_
              refine AllReadyH.cons (o := _) rfl (fun K hK => ?_) ?_
              · skip
                refine step_val 43 rfl rfl (w' := World.alloc W7 (.cells #[.pointer (some ⟨ib, 0, none⟩)] 80)) (v := .slice (some ⟨W7.heap.size, 0, none⟩) 1 1) (by kernel_rfl) ?_
                have F8 : Fm (M1 m) W3 (World.alloc W7 (.cells #[.pointer (some ⟨ib, 0, none⟩)] 80)) := Fm.alloc F7 _
                have B8 := Blk.alloc B7 (.cells #[.pointer (some ⟨ib, 0, none⟩)] 80)
                have I8 := Blk.alloc I7 (.cells #[.pointer (some ⟨ib, 0, none⟩)] 80)
                have C8 := Cells.one W7 (.pointer (some ⟨ib, 0, none⟩)) 80
                generalize hb8 : W7.heap.size = b8 at *
                generalize hW8 : World.alloc W7 (.cells #[.pointer (some ⟨ib, 0, none⟩)] 80) = W8 at *
                clear hW8 hb8
                refine hK.out _ _ (HS.out _ F8) (fun hHeld => ?_)
                clear hK K
                simp only [List.set_cons_zero, List.set_cons_succ]
                refine wpAnyH_ready (rs := [19]) (by kernel_rfl) (by simp) ?_
                refine AllReadyH.cons (o := _) rfl (fun K hK => ?_) ?_
                · skip
                  refine step_app 44 rfl rfl (.tmp 29) (.tmp 43) 76 rfl W8.heap.size 80 ip _ 8 Tryz.underlying76 hip hp0 hp1 hp2 rfl (.slice none 0 0) 0 [] rfl ⟨rfl, .inl ⟨rfl, rfl⟩⟩ (some ⟨b8, 0, none⟩) 1 1 [.pointer (some ⟨ib, 0, none⟩)] rfl C8 (by intro u hu; simp at hu; subst hu; rfl) (by omega) (by omega) (Nat.le_refl _) ?_
                  intro v9 W9 hown hgrow hat
                  obtain ⟨rn, rc, rfl, hrn, hrc⟩ := own_single hown
                  have F9 : Fm (M1 m) W3 W9 := Fm.grown F8 hgrow (fun k _ h => by simp [Value.ownBlock] at h)
                  have B9 := Blk.grown B8 hgrow (by simp [Value.ownBlock])
                  have I9 := Blk.grown I8 hgrow (by simp [Value.ownBlock])
                  have N9 : m < rn := Nat.lt_of_lt_of_le (Blk.lt B8) hrn
                  clear hown hgrow hat C8
                  refine hK.out _ _ (HS.out _ F9) (fun hHeld => ?_)
                  clear hK K
                  simp only [List.set_cons_zero, List.set_cons_succ]
                  refine held_take 20 45 (.pointer (some ⟨m, 0, none⟩)) rfl rfl (by kernel_rfl) (by kernel_rfl) (by kernel_rfl) (fun _ _ _ h => nomatch h.1) (Or.inl ⟨wanted_plain rfl _, fun w hSw => by kernel_rfl⟩) (by assumption) ?_
                  simp only [List.set_cons_zero, List.set_cons_succ]
                  refine held_take 21 46 (.pointer (some ⟨m, 1, none⟩)) rfl rfl (by kernel_rfl) (by kernel_rfl) (by kernel_rfl) (fun _ _ _ h => nomatch h.1) (Or.inl ⟨wanted_plain rfl _, fun w hSw => by kernel_rfl⟩) (by assumption) ?_
                  simp only [List.set_cons_zero, List.set_cons_succ]
                  refine wpAnyH_ready (rs := [22]) (by kernel_rfl) (by simp) ?_
                  refine AllReadyH.cons (o := _) rfl (fun K hK => ?_) ?_
                  · skip
                    have m1 := Blk.cell B9 1
                    change _ = some (Value.slice none 0 0) at m1
                    have mf := Blk.frozen B9 1
                    refine step_skip' (w' := W9.setCell ⟨m, 1, none⟩ (.slice (some ⟨rn, 0, none⟩) 1 rc)) rfl rfl (exec_store 76 (.tmp 46) (.tmp 44) rfl rfl rfl (by go_simp)) ?_
                    have F10 : Fm (M1 m) W3 (W9.setCell ⟨m, 1, none⟩ (.slice (some ⟨rn, 0, none⟩) 1 rc)) := Fm.set1 F9 1 _
                    refine hK.out _ _ (HS.out _ F10) (fun hHeld => ?_)
                    clear hK K
                    refine wpAnyH_done (by kernel_rfl) ?_ _
                    exact ⟨rfl, ⟨_, _, _, _, _, _, _, _, _, _, _, _, _, _, _, _, _, _, _, _, _, _, rfl⟩, rn, rc, ib, A5, c5, B9.set_ 1 _, (World.cell?_setCell_far W9 ⟨m, 1, none⟩ ⟨rn, 0, none⟩ _ (Nat.ne_of_lt N9)).trans hrc, I9.far (p := ⟨m, 1, none⟩) (Nat.ne_of_gt N7) _, N9, N7, F10⟩
                  exact AllReadyH.nil
                exact AllReadyH.nil
              exact AllReadyH.nil
            exact AllReadyH.nil
          refine AllReadyH.cons (o := _) rfl (fun K hK => ?_) ?_
          · skip
            refine step_val 42 rfl rfl (exec_box 87 (.tmp 41) rfl rfl (box_win A5 c5 _)) ?_
            have F7 : Fm (M1 m) W3 (World.alloc w5 (.cells (wIn A5 c5) 87)) := Fm.alloc F5 _
            have B7 := Blk.alloc B5 (.cells (wIn A5 c5) 87)
            have I7 := Blk.new w5 87 (wIn A5 c5)
            have N7 : m < w5.heap.size := Blk.lt B5
            generalize hib : w5.heap.size = ib at *
            generalize hW7 : (World.alloc w5 (.cells (wIn A5 c5) 87)) = W7 at *
            clear hW7
            refine hK.out _ _ (HS.out _ F7) (fun hHeld => ?_)
            clear hK K
            simp only [List.set_cons_zero, List.set_cons_succ]
            refine wpAnyH_ready (rs := [4, 18]) (by kernel_rfl) (by simp) ?_
            refine AllReadyH.cons (o := _) rfl (fun K hK => ?_) ?_
            · skip
              have m1 := Blk.cell B7 1
              change _ = some (Value.slice none 0 0) at m1
              refine step_val 29 (v := .slice none 0 0) rfl rfl (exec_load 76 (.tmp 28) rfl rfl (by go_simp)) ?_
              clear m1
              refine hK.out _ _ (HS.out _ F7) (fun hHeld => ?_)
              clear hK K
              simp only [List.set_cons_zero, List.set_cons_succ]
              refine wpAnyH_ready (rs := [18]) (by kernel_rfl) (by simp) ?_
              refine AllReadyH.cons (o := _) rfl (fun K hK => ?_) ?_
              · skip
                refine step_val 43 rfl rfl (w' := World.alloc W7 (.cells #[.pointer (some ⟨ib, 0, none⟩)] 80)) (v := .slice (some ⟨W7.heap.size, 0, none⟩) 1 1) (by kernel_rfl) ?_
                have F8 : Fm (M1 m) W3 (World.alloc W7 (.cells #[.pointer (some ⟨ib, 0, none⟩)] 80)) := Fm.alloc F7 _
                have B8 := Blk.alloc B7 (.cells #[.pointer (some ⟨ib, 0, none⟩)] 80)
                have I8 := Blk.alloc I7 (.cells #[.pointer (some ⟨ib, 0, none⟩)] 80)
                have C8 := Cells.one W7 (.pointer (some ⟨ib, 0, none⟩)) 80
                generalize hb8 : W7.heap.size = b8 at *
                generalize hW8 : World.alloc W7 (.cells #[.pointer (some ⟨ib, 0, none⟩)] 80) = W8 at *
                clear hW8 hb8
                refine hK.out _ _ (HS.out _ F8) (fun hHeld => ?_)
                clear hK K
                simp only [List.set_cons_zero, List.set_cons_succ]
                refine wpAnyH_ready (rs := [19]) (by kernel_rfl) (by simp) ?_
                refine AllReadyH.cons (o := _) rfl (fun K hK => ?_) ?_
                · skip
                  refine step_app 44 rfl rfl (.tmp 29) (.tmp 43) 76 rfl W8.heap.size 80 ip _ 8 Tryz.underlying76 hip hp0 hp1 hp2 rfl (.slice none 0 0) 0 [] rfl ⟨rfl, .inl ⟨rfl, rfl⟩⟩ (some ⟨b8, 0, none⟩) 1 1 [.pointer (some ⟨ib, 0, none⟩)] rfl C8 (by intro u hu; simp at hu; subst hu; rfl) (by omega) (by omega) (Nat.le_refl _) ?_
                  intro v9 W9 hown hgrow hat
                  obtain ⟨rn, rc, rfl, hrn, hrc⟩ := own_single hown
                  have F9 : Fm (M1 m) W3 W9 := Fm.grown F8 hgrow (fun k _ h => by simp [Value.ownBlock] at h)
                  have B9 := Blk.grown B8 hgrow (by simp [Value.ownBlock])
                  have I9 := Blk.grown I8 hgrow (by simp [Value.ownBlock])
                  have N9 : m < rn := Nat.lt_of_lt_of_le (Blk.lt B8) hrn
                  clear hown hgrow hat C8
                  refine hK.out _ _ (HS.out _ F9) (fun hHeld => ?_)
                  clear hK K
                  simp only [List.set_cons_zero, List.set_cons_succ]
                  refine held_take 20 45 (.pointer (some ⟨m, 0, none⟩)) rfl rfl (by kernel_rfl) (by kernel_rfl) (by kernel_rfl) (fun _ _ _ h => nomatch h.1) (Or.inl ⟨wanted_plain rfl _, fun w hSw => by kernel_rfl⟩) (by assumption) ?_
                  simp only [List.set_cons_zero, List.set_cons_succ]
                  refine held_take 21 46 (.pointer (some ⟨m, 1, none⟩)) rfl rfl (by kernel_rfl) (by kernel_rfl) (by kernel_rfl) (fun _ _ _ h => nomatch h.1) (Or.inl ⟨wanted_plain rfl _, fun w hSw => by kernel_rfl⟩) (by assumption) ?_
                  simp only [List.set_cons_zero, List.set_cons_succ]
                  refine wpAnyH_ready (rs := [22]) (by kernel_rfl) (by simp) ?_
                  refine AllReadyH.cons (o := _) rfl (fun K hK => ?_) ?_
                  · skip
                    have m1 := Blk.cell B9 1
                    change _ = some (Value.slice none 0 0) at m1
                    have mf := Blk.frozen B9 1
                    refine step_skip' (w' := W9.setCell ⟨m, 1, none⟩ (.slice (some ⟨rn, 0, none⟩) 1 rc)) rfl rfl (exec_store 76 (.tmp 46) (.tmp 44) rfl rfl rfl (by go_simp)) ?_
                    have F10 : Fm (M1 m) W3 (W9.setCell ⟨m, 1, none⟩ (.slice (some ⟨rn, 0, none⟩) 1 rc)) := Fm.set1 F9 1 _
                    refine hK.out _ _ (HS.out _ F10) (fun hHeld => ?_)
                    clear hK K
                    refine wpAnyH_done (by kernel_rfl) ?_ _
                    exact ⟨rfl, ⟨_, _, _, _, _, _, _, _, _, _, _, _, _, _, _, _, _, _, _, _, _, _, rfl⟩, rn, rc, ib, A5, c5, B9.set_ 1 _, (World.cell?_setCell_far W9 ⟨m, 1, none⟩ ⟨rn, 0, none⟩ _ (Nat.ne_of_lt N9)).trans hrc, I9.far (p := ⟨m, 1, none⟩) (Nat.ne_of_gt N7) _, N9, N7, F10⟩
                  exact AllReadyH.nil
                exact AllReadyH.nil
              exact AllReadyH.nil
            refine AllReadyH.cons (o := _) rfl (fun K hK => ?_) ?_
            · skip
              refine step_val 43 rfl rfl (w' := World.alloc W7 (.cells #[.pointer (some ⟨ib, 0, none⟩)] 80)) (v := .slice (some ⟨W7.heap.size, 0, none⟩) 1 1) (by kernel_rfl) ?_
              have F8 : Fm (M1 m) W3 (World.alloc W7 (.cells #[.pointer (some ⟨ib, 0, none⟩)] 80)) := Fm.alloc F7 _
              have B8 := Blk.alloc B7 (.cells #[.pointer (some ⟨ib, 0, none⟩)] 80)
              have I8 := Blk.alloc I7 (.cells #[.pointer (some ⟨ib, 0, none⟩)] 80)
              have C8 := Cells.one W7 (.pointer (some ⟨ib, 0, none⟩)) 80
              generalize hb8 : W7.heap.size = b8 at *
              generalize hW8 : World.alloc W7 (.cells #[.pointer (some ⟨ib, 0, none⟩)] 80) = W8 at *
              clear hW8 hb8
              refine hK.out _ _ (HS.out _ F8) (fun hHeld => ?_)
              clear hK K
              simp only [List.set_cons_zero, List.set_cons_succ]
              refine wpAnyH_ready (rs := [4]) (by kernel_rfl) (by simp) ?_
              refine AllReadyH.cons (o := _) rfl (fun K hK => ?_) ?_
              · skip
                have m1 := Blk.cell B8 1
                change _ = some (Value.slice none 0 0) at m1
                refine step_val 29 (v := .slice none 0 0) rfl rfl (exec_load 76 (.tmp 28) rfl rfl (by go_simp)) ?_
                clear m1
                refine hK.out _ _ (HS.out _ F8) (fun hHeld => ?_)
                clear hK K
                simp only [List.set_cons_zero, List.set_cons_succ]
                refine wpAnyH_ready (rs := [19]) (by kernel_rfl) (by simp) ?_
                refine AllReadyH.cons (o := _) rfl (fun K hK => ?_) ?_
                · skip
                  refine step_app 44 rfl rfl (.tmp 29) (.tmp 43) 76 rfl W8.heap.size 80 ip _ 8 Tryz.underlying76 hip hp0 hp1 hp2 rfl (.slice none 0 0) 0 [] rfl ⟨rfl, .inl ⟨rfl, rfl⟩⟩ (some ⟨b8, 0, none⟩) 1 1 [.pointer (some ⟨ib, 0, none⟩)] rfl C8 (by intro u hu; simp at hu; subst hu; rfl) (by omega) (by omega) (Nat.le_refl _) ?_
                  intro v9 W9 hown hgrow hat
                  obtain ⟨rn, rc, rfl, hrn, hrc⟩ := own_single hown
                  have F9 : Fm (M1 m) W3 W9 := Fm.grown F8 hgrow (fun k _ h => by simp [Value.ownBlock] at h)
                  have B9 := Blk.grown B8 hgrow (by simp [Value.ownBlock])
                  have I9 := Blk.grown I8 hgrow (by simp [Value.ownBlock])
                  have N9 : m < rn := Nat.lt_of_lt_of_le (Blk.lt B8) hrn
                  clear hown hgrow hat C8
                  refine hK.out _ _ (HS.out _ F9) (fun hHeld => ?_)
                  clear hK K
                  simp only [List.set_cons_zero, List.set_cons_succ]
                  refine held_take 20 45 (.pointer (some ⟨m, 0, none⟩)) rfl rfl (by kernel_rfl) (by kernel_rfl) (by kernel_rfl) (fun _ _ _ h => nomatch h.1) (Or.inl ⟨wanted_plain rfl _, fun w hSw => by kernel_rfl⟩) (by assumption) ?_
                  simp only [List.set_cons_zero, List.set_cons_succ]
                  refine held_take 21 46 (.pointer (some ⟨m, 1, none⟩)) rfl rfl (by kernel_rfl) (by kernel_rfl) (by kernel_rfl) (fun _ _ _ h => nomatch h.1) (Or.inl ⟨wanted_plain rfl _, fun w hSw => by kernel_rfl⟩) (by assumption) ?_
                  simp only [List.set_cons_zero, List.set_cons_succ]
                  refine wpAnyH_ready (rs := [22]) (by kernel_rfl) (by simp) ?_
                  refine AllReadyH.cons (o := _) rfl (fun K hK => ?_) ?_
                  · skip
                    have m1 := Blk.cell B9 1
                    change _ = some (Value.slice none 0 0) at m1
                    have mf := Blk.frozen B9 1
                    refine step_skip' (w' := W9.setCell ⟨m, 1, none⟩ (.slice (some ⟨rn, 0, none⟩) 1 rc)) rfl rfl (exec_store 76 (.tmp 46) (.tmp 44) rfl rfl rfl (by go_simp)) ?_
                    have F10 : Fm (M1 m) W3 (W9.setCell ⟨m, 1, none⟩ (.slice (some ⟨rn, 0, none⟩) 1 rc)) := Fm.set1 F9 1 _
                    refine hK.out _ _ (HS.out _ F10) (fun hHeld => ?_)
                    clear hK K
                    refine wpAnyH_done (by kernel_rfl) ?_ _
                    exact ⟨rfl, ⟨_, _, _, _, _, _, _, _, _, _, _, _, _, _, _, _, _, _, _, _, _, _, rfl⟩, rn, rc, ib, A5, c5, B9.set_ 1 _, (World.cell?_setCell_far W9 ⟨m, 1, none⟩ ⟨rn, 0, none⟩ _ (Nat.ne_of_lt N9)).trans hrc, I9.far (p := ⟨m, 1, none⟩) (Nat.ne_of_gt N7) _, N9, N7, F10⟩
                  exact AllReadyH.nil
                exact AllReadyH.nil
              exact AllReadyH.nil
            exact AllReadyH.nil
          exact AllReadyH.nil
        exact AllReadyH.nil
      exact AllReadyH.nil
    exact AllReadyH.nil
  rintro e a' W6 ⟨rfl, ⟨x25, x26, x27, x28, x29, x30, x31, x32, x33, x34, x35, x36, x37, x38, x39, x40, x41, x42, x43, x44, x45, x46, rfl⟩, hrow⟩
  obtain ⟨rn, rc, ib, A6, c6, hm6, hr6, hi6, hrn, hib, hf6⟩ := hrow
  have hne2 : ro ≠ m := Blk.ne_ HO5.out HM5.out (by decide)
  have hx6 := HX5.out.fm hf6 (show ¬ M1 m T from Nat.ne_of_lt hTm)
  have ho6 := HO5.out.fm hf6 (show ¬ M1 m ro from hne2)
  clear s1 s2 s3 s4 s5 hld hfza k33 k34 k35 m1 hfm HS hF0 hM0
  have t1 := hx6.cell 1
  change _ = some (Value.slice (some ⟨ri, 0, none⟩) 1 c1) at t1
  have t2 := hx6.cell 2
  change _ = some (Value.slice (some ⟨ro, 0, none⟩) 1 c2) at t2
  have o0 := ho6.cell 0
  change _ = some (Value.int .i64 1) at o0
  have o1 := ho6.cell 1
  change _ = some (Value.slice none 0 0) at o1
  have HM6 := Lib.hid hm6
  have HR6 := Lib.hid hr6
  have HI6 := Lib.hid hi6
  have HF6 := Lib.hid hf6
  have hml6 := hm6.lt
  have HQ6 : Hid (Fm (M1 m) W6 W6.drew) := (Fm.refl _ _).drew
  have HO6 := Lib.hid ho6
  have HX6 := Lib.hid hx6
  clear hm6 hr6 hi6 hf6 hx6 ho6
  go_wp2_with fail
  rw [rounds_succ]
  go_wp2_with fail
  refine wp_loop_rounds 2 ?_
  rw [rounds_succ]
  go_wp2_with fail
  obtain ⟨ip, hip, hp0, hp1, hp2⟩ := info_parts info_pout
  have HS6 := Lib.hid (fun w' (hf : Fm (M1 m) W6 w') => OutS.of HX6.out HO6.out (Nat.ne_of_lt hTm) hne2 hf)
  refine Code.wp_mono (Q := fun e a' w' => e = .normal ∧ (∃ y54 y55 y56 y57 y58 y59 y60 y61 y62 y63 y64 y65 y66 y67 y68 y69 y70 y71 y72 y73 y74 y75 y76 y77 : Value, a' = ⟨#[.agg #[.int .i32 ver, .slice (some ⟨ri, 0, none⟩) 1 c1, .slice (some ⟨ro, 0, none⟩) 1 c2, .int .u32 lock], .pointer (some ⟨T, 0, none⟩), .pointer none, .pointer (some ⟨m, 0, none⟩), .int .i64 1, .pointer (some ⟨T5, 0, none⟩), .int .i64 0, .pointer (some ⟨T, 0, none⟩), .int .i32 ver, .pointer (some ⟨T, 3, none⟩), .int .u32 lock, .agg #[.int .i32 ver, .slice none 0 0, .slice none 0 0, .int .u32 lock], .pointer (some ⟨m, 0, none⟩), .int .i64 1, .pointer (some ⟨T, 1, none⟩), .slice (some ⟨ri, 0, none⟩) 1 c1, .int .i64 1, .bool false, .int .i64 0, .int .i64 1, .pointer (some ⟨T, 1, none⟩), .slice (some ⟨ri, 0, none⟩) 1 c1, .int .i64 0, .pointer (some ⟨ri, 0, none⟩), .agg inCells.toArray, x25, x26, x27, x28, x29, x30, x31, x32, x33, x34, x35, x36, x37, x38, x39, x40, x41, x42, x43, x44, x45, x46, .int .i64 0, .pointer (some ⟨T, 2, none⟩), .slice (some ⟨ro, 0, none⟩) 1 c2, .int .i64 1, .bool true, undef, undef, y54, y55, y56, y57, y58, y59, y60, y61, y62, y63, y64, y65, y66, y67, y68, y69, y70, y71, y72, y73, y74, y75, y76, y77, undef], []⟩) ∧ RowT W6 m rn rc ver lock w') ?_ ?_
  rotate_left
  · have hF0 : Fm (M1 m) W6 W6.drew := HQ6.out
    have hM0 : Blk W6.drew m 79 #[.int .i32 ver, .slice (some ⟨rn, 0, none⟩) 1 rc, .slice none 0 0, .int .u32 lock] := HM6.out.drew
    refine wp_region_held_drew (S := OutS W6 m T ro c2) (by kernel_rfl) (HS6.out _ hF0) (fun hHeld => ?_)
    refine held_take 0 54 (.pointer (some ⟨m, 0, none⟩)) rfl rfl (by kernel_rfl) (by kernel_rfl) (by kernel_rfl) (fun _ _ _ h => nomatch h.1) (Or.inl ⟨wanted_plain rfl _, fun w hSw => by kernel_rfl⟩) (by assumption) ?_
    simp only [List.set_cons_zero, List.set_cons_succ]
    refine held_take 1 55 (.pointer (some ⟨m, 0, none⟩)) rfl rfl (by kernel_rfl) (by kernel_rfl) (by kernel_rfl) (fun _ _ _ h => nomatch h.1) (Or.inl ⟨wanted_plain rfl _, fun w hSw => by kernel_rfl⟩) (by assumption) ?_
    simp only [List.set_cons_zero, List.set_cons_succ]
    refine held_take 2 56 (.pointer (some ⟨m, 0, none⟩)) rfl rfl (by kernel_rfl) (by kernel_rfl) (by kernel_rfl) (fun _ _ _ h => nomatch h.1) (Or.inl ⟨wanted_plain rfl _, fun w hSw => by kernel_rfl⟩) (by assumption) ?_
    simp only [List.set_cons_zero, List.set_cons_succ]
    refine held_take 3 57 (.pointer (some ⟨m, 2, none⟩)) rfl rfl (by kernel_rfl) (by kernel_rfl) (by kernel_rfl) (fun _ _ _ h => nomatch h.1) (Or.inl ⟨wanted_plain rfl _, fun w hSw => by kernel_rfl⟩) (by assumption) ?_
    simp only [List.set_cons_zero, List.set_cons_succ]
    refine held_take 5 59 (.pointer (some ⟨T, 2, none⟩)) rfl rfl (by kernel_rfl) (by kernel_rfl) (by kernel_rfl) (fun _ _ _ h => nomatch h.1) (Or.inl ⟨wanted_plain rfl _, fun w hSw => by kernel_rfl⟩) (by assumption) ?_
    simp only [List.set_cons_zero, List.set_cons_succ]
    refine held_take 6 60 (.slice (some ⟨ro, 0, none⟩) 1 c2) rfl rfl (by kernel_rfl) (by kernel_rfl) (by kernel_rfl) (fun _ _ _ h => nomatch h.1) (Or.inl ⟨wanted_plain rfl _, fun w hSw => exec_load 24 (.tmp 59) rfl rfl (by (obtain ⟨g1, g2, g3, g4⟩ := hSw; go_simp))⟩) (by assumption) ?_
    simp only [List.set_cons_zero, List.set_cons_succ]
    refine held_take 7 61 (.int .i64 0) rfl rfl (by kernel_rfl) (by kernel_rfl) (by kernel_rfl) (fun _ _ _ h => nomatch h.1) (Or.inl ⟨wanted_plain rfl _, fun w hSw => by kernel_rfl⟩) (by assumption) ?_
    simp only [List.set_cons_zero, List.set_cons_succ]
    refine held_take 8 62 (.pointer (some ⟨ro, 0, none⟩)) rfl rfl (by kernel_rfl) (by kernel_rfl) (by kernel_rfl) (fun _ _ _ h => nomatch h.1) (Or.inl ⟨wanted_plain rfl _, fun w hSw => by kernel_rfl⟩) (by assumption) ?_
    simp only [List.set_cons_zero, List.set_cons_succ]
    refine held_take 9 63 (.pointer (some ⟨ro, 0, none⟩)) rfl rfl (by kernel_rfl) (by kernel_rfl) (by kernel_rfl) (fun _ _ _ h => nomatch h.1) (Or.inl ⟨wanted_plain rfl _, fun w hSw => by kernel_rfl⟩) (by assumption) ?_
    simp only [List.set_cons_zero, List.set_cons_succ]
    refine held_take 10 64 (.int .i64 1) rfl rfl (by kernel_rfl) (by kernel_rfl) (by kernel_rfl) (fun _ _ _ h => nomatch h.1) (Or.inl ⟨wanted_plain rfl _, fun w hSw => exec_load 2 (.tmp 63) rfl rfl (by (obtain ⟨g1, g2, g3, g4⟩ := hSw; go_simp))⟩) (by assumption) ?_
    simp only [List.set_cons_zero, List.set_cons_succ]
    refine held_take 11 65 (.pointer (some ⟨T, 2, none⟩)) rfl rfl (by kernel_rfl) (by kernel_rfl) (by kernel_rfl) (fun _ _ _ h => nomatch h.1) (Or.inl ⟨wanted_plain rfl _, fun w hSw => by kernel_rfl⟩) (by assumption) ?_
    simp only [List.set_cons_zero, List.set_cons_succ]
    refine held_take 12 66 (.slice (some ⟨ro, 0, none⟩) 1 c2) rfl rfl (by kernel_rfl) (by kernel_rfl) (by kernel_rfl) (fun _ _ _ h => nomatch h.1) (Or.inl ⟨wanted_plain rfl _, fun w hSw => exec_load 24 (.tmp 65) rfl rfl (by (obtain ⟨g1, g2, g3, g4⟩ := hSw; go_simp))⟩) (by assumption) ?_
    simp only [List.set_cons_zero, List.set_cons_succ]
    refine held_take 13 67 (.int .i64 0) rfl rfl (by kernel_rfl) (by kernel_rfl) (by kernel_rfl) (fun _ _ _ h => nomatch h.1) (Or.inl ⟨wanted_plain rfl _, fun w hSw => by kernel_rfl⟩) (by assumption) ?_
    simp only [List.set_cons_zero, List.set_cons_succ]
    refine held_take 14 68 (.pointer (some ⟨ro, 0, none⟩)) rfl rfl (by kernel_rfl) (by kernel_rfl) (by kernel_rfl) (fun _ _ _ h => nomatch h.1) (Or.inl ⟨wanted_plain rfl _, fun w hSw => by kernel_rfl⟩) (by assumption) ?_
    simp only [List.set_cons_zero, List.set_cons_succ]
    refine held_take 15 69 (.pointer (some ⟨ro, 1, none⟩)) rfl rfl (by kernel_rfl) (by kernel_rfl) (by kernel_rfl) (fun _ _ _ h => nomatch h.1) (Or.inl ⟨wanted_plain rfl _, fun w hSw => by kernel_rfl⟩) (by assumption) ?_
    simp only [List.set_cons_zero, List.set_cons_succ]
    refine held_take 16 70 (.slice none 0 0) rfl rfl (by kernel_rfl) (by kernel_rfl) (by kernel_rfl) (fun _ _ _ h => nomatch h.1) (Or.inl ⟨wanted_plain rfl _, fun w hSw => exec_load 30 (.tmp 69) rfl rfl (by (obtain ⟨g1, g2, g3, g4⟩ := hSw; go_simp))⟩) (by assumption) ?_
    simp only [List.set_cons_zero, List.set_cons_succ]
    refine wpAnyH_ready (rs := [4, 17]) (by kernel_rfl) (by simp) ?_
    refine AllReadyH.cons (o := _) rfl (fun K hK => ?_) ?_
    · skip
      have m2 := Blk.cell hM0 2
      change _ = some (Value.slice none 0 0) at m2
      refine step_val 58 (v := .slice none 0 0) rfl rfl (exec_load 77 (.tmp 57) rfl rfl (by go_simp)) ?_
      clear m2
      refine hK.out _ _ (HS6.out _ hF0) (fun hHeld => ?_)
      clear hK K
      simp only [List.set_cons_zero, List.set_cons_succ]
      refine wpAnyH_ready (rs := [17]) (by kernel_rfl) (by simp) ?_
      refine AllReadyH.cons (o := _) rfl (fun K hK => ?_) ?_
      · skip
        refine step_enter 71 18 #[.slice none 0 0] rfl rfl (by kernel_rfl) ?_
        refine (copied_any _ 0 0 0 none [] (Rd.nil _ _ _ _) (by omega)).mono ?_
        rintro e w5 ⟨A5, c5, rfl, -, hb5⟩
        have F5 := Fm.below (M := M1 m) (w := W6) hF0 hb5
        have B5 := Blk.step hM0 hb5
        clear hb5
        refine ⟨_, rfl, ?_⟩
        refine hK.out _ _ (HS6.out _ F5) (fun hHeld => ?_)
        clear hK K
        simp only [List.set_cons_zero, List.set_cons_succ]
        refine held_take 18 72 (.agg #[.int .i64 1, .slice A5 0 c5]) rfl rfl (by kernel_rfl) (by kernel_rfl) (by kernel_rfl) (fun _ _ _ h => nomatch h.1) (Or.inl ⟨wanted_plain rfl _, fun w hSw => by kernel_rfl⟩) (by assumption) ?_
        simp only [List.set_cons_zero, List.set_cons_succ]
        refine wpAnyH_ready (rs := [19]) (by kernel_rfl) (by simp) ?_
        refine AllReadyH.cons (o := _) rfl (fun K hK => ?_) ?_
        · skip
          refine step_val 73 rfl rfl (exec_box 90 (.tmp 72) rfl rfl (box_wout A5 c5 _)) ?_
          have F7 : Fm (M1 m) W6 (World.alloc w5 (.cells #[.int .i64 1, .slice A5 0 c5] 90)) := Fm.alloc F5 _
          have B7 := Blk.alloc B5 (.cells #[.int .i64 1, .slice A5 0 c5] 90)
          generalize hob : w5.heap.size = ob at *
          generalize hW7 : (World.alloc w5 (.cells #[.int .i64 1, .slice A5 0 c5] 90)) = W7 at *
          clear hW7 hob
          refine hK.out _ _ (HS6.out _ F7) (fun hHeld => ?_)
          clear hK K
          simp only [List.set_cons_zero, List.set_cons_succ]
          refine wpAnyH_ready (rs := [20]) (by kernel_rfl) (by simp) ?_
          refine AllReadyH.cons (o := _) rfl (fun K hK => ?_) ?_
          · skip
            refine step_val 74 rfl rfl (w' := World.alloc W7 (.cells #[.pointer (some ⟨ob, 0, none⟩)] 88)) (v := .slice (some ⟨W7.heap.size, 0, none⟩) 1 1) (by kernel_rfl) ?_
            have F8 : Fm (M1 m) W6 (World.alloc W7 (.cells #[.pointer (some ⟨ob, 0, none⟩)] 88)) := Fm.alloc F7 _
            have B8 := Blk.alloc B7 (.cells #[.pointer (some ⟨ob, 0, none⟩)] 88)
            have C8 := Cells.one W7 (.pointer (some ⟨ob, 0, none⟩)) 88
            generalize hb8 : W7.heap.size = b8 at *
            generalize hW8 : World.alloc W7 (.cells #[.pointer (some ⟨ob, 0, none⟩)] 88) = W8 at *
            clear hW8 hb8
            refine hK.out _ _ (HS6.out _ F8) (fun hHeld => ?_)
            clear hK K
            simp only [List.set_cons_zero, List.set_cons_succ]
            refine wpAnyH_ready (rs := [21]) (by kernel_rfl) (by simp) ?_
            refine AllReadyH.cons (o := _) rfl (fun K hK => ?_) ?_
            · skip
              refine step_app 75 rfl rfl (.tmp 58) (.tmp 74) 77 rfl W8.heap.size 88 ip _ 8 Tryz.underlying77 hip hp0 hp1 hp2 rfl (.slice none 0 0) 0 [] rfl ⟨rfl, .inl ⟨rfl, rfl⟩⟩ (some ⟨b8, 0, none⟩) 1 1 [.pointer (some ⟨ob, 0, none⟩)] rfl C8 (by intro u hu; simp at hu; subst hu; rfl) (by omega) (by omega) (Nat.le_refl _) ?_
              intro v9 W9 hown hgrow hat
              obtain ⟨ru, rv, rfl, -, -⟩ := own_single hown
              have F9 : Fm (M1 m) W6 W9 := Fm.grown F8 hgrow (fun k _ h => by simp [Value.ownBlock] at h)
              have B9 := Blk.grown B8 hgrow (by simp [Value.ownBlock])
              clear hown hgrow hat C8
              refine hK.out _ _ (HS6.out _ F9) (fun hHeld => ?_)
              clear hK K
              simp only [List.set_cons_zero, List.set_cons_succ]
              refine held_take 22 76 (.pointer (some ⟨m, 0, none⟩)) rfl rfl (by kernel_rfl) (by kernel_rfl) (by kernel_rfl) (fun _ _ _ h => nomatch h.1) (Or.inl ⟨wanted_plain rfl _, fun w hSw => by kernel_rfl⟩) (by assumption) ?_
              simp only [List.set_cons_zero, List.set_cons_succ]
              refine held_take 23 77 (.pointer (some ⟨m, 2, none⟩)) rfl rfl (by kernel_rfl) (by kernel_rfl) (by kernel_rfl) (fun _ _ _ h => nomatch h.1) (Or.inl ⟨wanted_plain rfl _, fun w hSw => by kernel_rfl⟩) (by assumption) ?_
              simp only [List.set_cons_zero, List.set_cons_succ]
              refine wpAnyH_ready (rs := [24]) (by kernel_rfl) (by simp) ?_
              refine AllReadyH.cons (o := _) rfl (fun K hK => ?_) ?_
              · skip
                have m2 := Blk.cell B9 2
                change _ = some (Value.slice none 0 0) at m2
                have mf := Blk.frozen B9 2
                refine step_skip' (w' := W9.setCell ⟨m, 2, none⟩ (.slice (some ⟨ru, 0, none⟩) 1 rv)) rfl rfl (exec_store 77 (.tmp 77) (.tmp 75) rfl rfl rfl (by go_simp)) ?_
                have F10 : Fm (M1 m) W6 (W9.setCell ⟨m, 2, none⟩ (.slice (some ⟨ru, 0, none⟩) 1 rv)) := Fm.set1 F9 2 _
                refine hK.out _ _ (HS6.out _ F10) (fun hHeld => ?_)
                clear hK K
                refine wpAnyH_done (by kernel_rfl) ?_ _
                exact ⟨rfl, ⟨_, _, _, _, _, _, _, _, _, _, _, _, _, _, _, _, _, _, _, _, _, _, _, _, rfl⟩, _, _, _, B9.set_ 2 _, F10⟩
              exact AllReadyH.nil
            exact AllReadyH.nil
          exact AllReadyH.nil
        exact AllReadyH.nil
      exact AllReadyH.nil
    refine AllReadyH.cons (o := _) rfl (fun K hK => ?_) ?_
    · skip
      refine step_enter 71 18 #[.slice none 0 0] rfl rfl (by kernel_rfl) ?_
      refine (copied_any _ 0 0 0 none [] (Rd.nil _ _ _ _) (by omega)).mono ?_
      rintro e w5 ⟨A5, c5, rfl, -, hb5⟩
      have F5 := Fm.below (M := M1 m) (w := W6) hF0 hb5
      have B5 := Blk.step hM0 hb5
      clear hb5
      refine ⟨_, rfl, ?_⟩
      refine hK.out _ _ (HS6.out _ F5) (fun hHeld => ?_)
      clear hK K
      simp only [List.set_cons_zero, List.set_cons_succ]
      refine held_take 18 72 (.agg #[.int .i64 1, .slice A5 0 c5]) rfl rfl (by kernel_rfl) (by kernel_rfl) (by kernel_rfl) (fun _ _ _ h => nomatch h.1) (Or.inl ⟨wanted_plain rfl _, fun w hSw => by kernel_rfl⟩) (by assumption) ?_
      simp only [List.set_cons_zero, List.set_cons_succ]
      refine wpAnyH_ready (rs := [4, 19]) (by kernel_rfl) (by simp) ?_
      refine AllReadyH.cons (o := _) rfl (fun K hK => ?_) ?_
      · skip
        have m2 := Blk.cell B5 2
        change _ = some (Value.slice none 0 0) at m2
        refine step_val 58 (v := .slice none 0 0) rfl rfl (exec_load 77 (.tmp 57) rfl rfl (by go_simp)) ?_
        clear m2
        refine hK.out _ _ (HS6.out _ F5) (fun hHeld => ?_)
        clear hK K
        simp only [List.set_cons_zero, List.set_cons_succ]
        refine wpAnyH_ready (rs := [19]) (by kernel_rfl) (by simp) ?_
        refine AllReadyH.cons (o := _) rfl (fun K hK => ?_) ?_
        · skip
          refine step_val 73 rfl rfl (exec_box 90 (.tmp 72) rfl rfl (box_wout A5 c5 _)) ?_
          have F7 : Fm (M1 m) W6 (World.alloc w5 (.cells #[.int .i64 1, .slice A5 0 c5] 90)) := Fm.alloc F5 _
          have B7 := Blk.alloc B5 (.cells #[.int .i64 1, .slice A5 0 c5] 90)
          generalize hob : w5.heap.size = ob at *
          generalize hW7 : (World.alloc w5 (.cells #[.int .i64 1, .slice A5 0 c5] 90)) = W7 at *
          clear hW7 hob
          refine hK.out _ _ (HS6.out _ F7) (fun hHeld => ?_)
          clear hK K
          simp only [List.set_cons_zero, List.set_cons_succ]
          refine wpAnyH_ready (rs := [20]) (by kernel_rfl) (by simp) ?_
          refine AllReadyH.cons (o := _) rfl (fun K hK => ?_) ?_
          · skip
            refine step_val 74 rfl rfl (w' := World.alloc W7 (.cells #[.pointer (some ⟨ob, 0, none⟩)] 88)) (v := .slice (some ⟨W7.heap.size, 0, none⟩) 1 1) (by kernel_rfl) ?_
            have F8 : Fm (M1 m) W6 (World.alloc W7 (.cells #[.pointer (some ⟨ob, 0, none⟩)] 88)) := Fm.alloc F7 _
            have B8 := Blk.alloc B7 (.cells #[.pointer (some ⟨ob, 0, none⟩)] 88)
            have C8 := Cells.one W7 (.pointer (some ⟨ob, 0, none⟩)) 88
            generalize hb8 : W7.heap.size = b8 at *
            generalize hW8 : World.alloc W7 (.cells #[.pointer (some ⟨ob, 0, none⟩)] 88) = W8 at *
            clear hW8 hb8
            refine hK.out _ _ (HS6.out _ F8) (fun hHeld => ?_)
            clear hK K
            simp only [List.set_cons_zero, List.set_cons_succ]
            refine wpAnyH_ready (rs := [21]) (by kernel_rfl) (by simp) ?_
            refine AllReadyH.cons (o := _) rfl (fun K hK => ?_) ?_
            · skip
              refine step_app 75 rfl rfl (.tmp 58) (.tmp 74) 77 rfl W8.heap.size 88 ip _ 8 Tryz.underlying77 hip hp0 hp1 hp2 rfl (.slice none 0 0) 0 [] rfl ⟨rfl, .inl ⟨rfl, rfl⟩⟩ (some ⟨b8, 0, none⟩) 1 1 [.pointer (some ⟨ob, 0, none⟩)] rfl C8 (by intro u hu; simp at hu; subst hu; rfl) (by omega) (by omega) (Nat.le_refl _) ?_
              intro v9 W9 hown hgrow hat
              obtain ⟨ru, rv, rfl, -, -⟩ := own_single hown
              have F9 : Fm (M1 m) W6 W9 := Fm.grown F8 hgrow (fun k _ h => by simp [Value.ownBlock] at h)
              have B9 := Blk.grown B8 hgrow (by simp [Value.ownBlock])
              clear hown hgrow hat C8
              refine hK.out _ _ (HS6.out _ F9) (fun hHeld => ?_)
              clear hK K
              simp only [List.set_cons_zero, List.set_cons_succ]
              refine held_take 22 76 (.pointer (some ⟨m, 0, none⟩)) rfl rfl (by kernel_rfl) (by kernel_rfl) (by kernel_rfl) (fun _ _ _ h => nomatch h.1) (Or.inl ⟨wanted_plain rfl _, fun w hSw => by kernel_rfl⟩) (by assumption) ?_
              simp only [List.set_cons_zero, List.set_cons_succ]
              refine held_take 23 77 (.pointer (some ⟨m, 2, none⟩)) rfl rfl (by kernel_rfl) (by kernel_rfl) (by kernel_rfl) (fun _ _ _ h => nomatch h.1) (Or.inl ⟨wanted_plain rfl _, fun w hSw => by kernel_rfl⟩) (by assumption) ?_
              simp only [List.set_cons_zero, List.set_cons_succ]
              refine wpAnyH_ready (rs := [24]) (by kernel_rfl) (by simp) ?_
              refine AllReadyH.cons (o := _) rfl (fun K hK => ?_) ?_
              · skip
                have m2 := Blk.cell B9 2
                change _ = some (Value.slice none 0 0) at m2
                have mf := Blk.frozen B9 2
                refine step_skip' (w' := W9.setCell ⟨m, 2, none⟩ (.slice (some ⟨ru, 0, none⟩) 1 rv)) rfl rfl (exec_store 77 (.tmp 77) (.tmp 75) rfl rfl rfl (by go_simp)) ?_
                have F10 : Fm (M1 m) W6 (W9.setCell ⟨m, 2, none⟩ (.slice (some ⟨ru, 0, none⟩) 1 rv)) := Fm.set1 F9 2 _
                refine hK.out _ _ (HS6.out _ F10) (fun hHeld => ?_)
                clear hK K
                refine wpAnyH_done (by kernel_rfl) ?_ _
                exact ⟨rfl, ⟨_, _, _, _, _, _, _, _, _, _, _, _, _, _, _, _, _, _, _, _, _, _, _, _, rfl⟩, _, _, _, B9.set_ 2 _, F10⟩
              exact AllReadyH.nil
            exact AllReadyH.nil
          exact AllReadyH.nil
        exact AllReadyH.nil
      refine AllReadyH.cons (o := _) rfl (fun K hK => ?_) ?_
      · skip
        refine step_val 73 rfl rfl (exec_box 90 (.tmp 72) rfl rfl (box_wout A5 c5 _)) ?_
        have F7 : Fm (M1 m) W6 (World.alloc w5 (.cells #[.int .i64 1, .slice A5 0 c5] 90)) := Fm.alloc F5 _
        have B7 := Blk.alloc B5 (.cells #[.int .i64 1, .slice A5 0 c5] 90)
        generalize hob : w5.heap.size = ob at *
        generalize hW7 : (World.alloc w5 (.cells #[.int .i64 1, .slice A5 0 c5] 90)) = W7 at *
        clear hW7 hob
        refine hK.out _ _ (HS6.out _ F7) (fun hHeld => ?_)
        clear hK K
        simp only [List.set_cons_zero, List.set_cons_succ]
        refine wpAnyH_ready (rs := [4, 20]) (by kernel_rfl) (by simp) ?_
        refine AllReadyH.cons (o := _) rfl (fun K hK => ?_) ?_
        · skip
          have m2 := Blk.cell B7 2
          change _ = some (Value.slice none 0 0) at m2
          refine step_val 58 (v := .slice none 0 0) rfl rfl (exec_load 77 (.tmp 57) rfl rfl (by go_simp)) ?_
          clear m2
          refine hK.out _ _ (HS6.out _ F7) (fun hHeld => ?_)
          clear hK K
          simp only [List.set_cons_zero, List.set_cons_succ]
          refine wpAnyH_ready (rs := [20]) (by kernel_rfl) (by simp) ?_
          refine AllReadyH.cons (o := _) rfl (fun K hK => ?_) ?_
          · skip
            refine step_val 74 rfl rfl (w' := World.alloc W7 (.cells #[.pointer (some ⟨ob, 0, none⟩)] 88)) (v := .slice (some ⟨W7.heap.size, 0, none⟩) 1 1) (by kernel_rfl) ?_
            have F8 : Fm (M1 m) W6 (World.alloc W7 (.cells #[.pointer (some ⟨ob, 0, none⟩)] 88)) := Fm.alloc F7 _
            have B8 := Blk.alloc B7 (.cells #[.pointer (some ⟨ob, 0, none⟩)] 88)
            have C8 := Cells.one W7 (.pointer (some ⟨ob, 0, none⟩)) 88
            generalize hb8 : W7.heap.size = b8 at *
            generalize hW8 : World.alloc W7 (.cells #[.pointer (some ⟨ob, 0, none⟩)] 88) = W8 at *
            clear hW8 hb8
            refine hK.out _ _ (HS6.out _ F8) (fun hHeld => ?_)
            clear hK K
            simp only [List.set_cons_zero, List.set_cons_succ]
            refine wpAnyH_ready (rs := [21]) (by kernel_rfl) (by simp) ?_
            refine AllReadyH.cons (o := _) rfl (fun K hK => ?_) ?_
            · skip
              refine step_app 75 rfl rfl (.tmp 58) (.tmp 74) 77 rfl W8.heap.size 88 ip _ 8 Tryz.underlying77 hip hp0 hp1 hp2 rfl (.slice none 0 0) 0 [] rfl ⟨rfl, .inl ⟨rfl, rfl⟩⟩ (some ⟨b8, 0, none⟩) 1 1 [.pointer (some ⟨ob, 0, none⟩)] rfl C8 (by intro u hu; simp at hu; subst hu; rfl) (by omega) (by omega) (Nat.le_refl _) ?_
              intro v9 W9 hown hgrow hat
              obtain ⟨ru, rv, rfl, -, -⟩ := own_single hown
              have F9 : Fm (M1 m) W6 W9 := Fm.grown F8 hgrow (fun k _ h => by simp [Value.ownBlock] at h)
              have B9 := Blk.grown B8 hgrow (by simp [Value.ownBlock])
              clear hown hgrow hat C8
              refine hK.out _ _ (HS6.out _ F9) (fun hHeld => ?_)
              clear hK K
              simp only [List.set_cons_zero, List.set_cons_succ]
              refine held_take 22 76 (.pointer (some ⟨m, 0, none⟩)) rfl rfl (by kernel_rfl) (by kernel_rfl) (by kernel_rfl) (fun _ _ _ h => nomatch h.1) (Or.inl ⟨wanted_plain rfl _, fun w hSw => by kernel_rfl⟩) (by assumption) ?_
              simp only [List.set_cons_zero, List.set_cons_succ]
              refine held_take 23 77 (.pointer (some ⟨m, 2, none⟩)) rfl rfl (by kernel_rfl) (by kernel_rfl) (by kernel_rfl) (fun _ _ _ h => nomatch h.1) (Or.inl ⟨wanted_plain rfl _, fun w hSw => by kernel_rfl⟩) (by assumption) ?_
              simp only [List.set_cons_zero, List.set_cons_succ]
              refine wpAnyH_ready (rs := [24]) (by kernel_rfl) (by simp) ?_
              refine AllReadyH.cons (o := _) rfl (fun K hK => ?_) ?_
              · skip
                have m2 := Blk.cell B9 2
                change _ = some (Value.slice none 0 0) at m2
                have mf := Blk.frozen B9 2
                refine step_skip' (w' := W9.setCell ⟨m, 2, none⟩ (.slice (some ⟨ru, 0, none⟩) 1 rv)) rfl rfl (exec_store 77 (.tmp 77) (.tmp 75) rfl rfl rfl (by go_simp)) ?_
                have F10 : Fm (M1 m) W6 (W9.setCell ⟨m, 2, none⟩ (.slice (some ⟨ru, 0, none⟩) 1 rv)) := Fm.set1 F9 2 _
                refine hK.out _ _ (HS6.out _ F10) (fun hHeld => ?_)
                clear hK K
                refine wpAnyH_done (by kernel_rfl) ?_ _
                exact ⟨rfl, ⟨_, _, _, _, _, _, _, _, _, _, _, _, _, _, _, _, _, _, _, _, _, _, _, _, rfl⟩, _, _, _, B9.set_ 2 _, F10⟩
              exact AllReadyH.nil
            exact AllReadyH.nil
          exact AllReadyH.nil
        refine AllReadyH.cons (o := _) rfl (fun K hK => ?_) ?_
        · skip
          refine step_val 74 rfl rfl (w' := World.alloc W7 (.cells #[.pointer (some ⟨ob, 0, none⟩)] 88)) (v := .slice (some ⟨W7.heap.size, 0, none⟩) 1 1) (by kernel_rfl) ?_
          have F8 : Fm (M1 m) W6 (World.alloc W7 (.cells #[.pointer (some ⟨ob, 0, none⟩)] 88)) := Fm.alloc F7 _
          have B8 := Blk.alloc B7 (.cells #[.pointer (some ⟨ob, 0, none⟩)] 88)
          have C8 := Cells.one W7 (.pointer (some ⟨ob, 0, none⟩)) 88
          generalize hb8 : W7.heap.size = b8 at *
          generalize hW8 : World.alloc W7 (.cells #[.pointer (some ⟨ob, 0, none⟩)] 88) = W8 at *
          clear hW8 hb8
          refine hK.out _ _ (HS6.out _ F8) (fun hHeld => ?_)
          clear hK K
          simp only [List.set_cons_zero, List.set_cons_succ]
          refine wpAnyH_ready (rs := [4]) (by kernel_rfl) (by simp) ?_
          refine AllReadyH.cons (o := _) rfl (fun K hK => ?_) ?_
          · skip
            have m2 := Blk.cell B8 2
            change _ = some (Value.slice none 0 0) at m2
            refine step_val 58 (v := .slice none 0 0) rfl rfl (exec_load 77 (.tmp 57) rfl rfl (by go_simp)) ?_
            clear m2
            refine hK.out _ _ (HS6.out _ F8) (fun hHeld => ?_)
            clear hK K
            simp only [List.set_cons_zero, List.set_cons_succ]
            refine wpAnyH_ready (rs := [21]) (by kernel_rfl) (by simp) ?_
            refine AllReadyH.cons (o := _) rfl (fun K hK => ?_) ?_
            · skip
              refine step_app 75 rfl rfl (.tmp 58) (.tmp 74) 77 rfl W8.heap.size 88 ip _ 8 Tryz.underlying77 hip hp0 hp1 hp2 rfl (.slice none 0 0) 0 [] rfl ⟨rfl, .inl ⟨rfl, rfl⟩⟩ (some ⟨b8, 0, none⟩) 1 1 [.pointer (some ⟨ob, 0, none⟩)] rfl C8 (by intro u hu; simp at hu; subst hu; rfl) (by omega) (by omega) (Nat.le_refl _) ?_
              intro v9 W9 hown hgrow hat
              obtain ⟨ru, rv, rfl, -, -⟩ := own_single hown
              have F9 : Fm (M1 m) W6 W9 := Fm.grown F8 hgrow (fun k _ h => by simp [Value.ownBlock] at h)
              have B9 := Blk.grown B8 hgrow (by simp [Value.ownBlock])
              clear hown hgrow hat C8
              refine hK.out _ _ (HS6.out _ F9) (fun hHeld => ?_)
              clear hK K
              simp only [List.set_cons_zero, List.set_cons_succ]
              refine held_take 22 76 (.pointer (some ⟨m, 0, none⟩)) rfl rfl (by kernel_rfl) (by kernel_rfl) (by kernel_rfl) (fun _ _ _ h => nomatch h.1) (Or.inl ⟨wanted_plain rfl _, fun w hSw => by kernel_rfl⟩) (by assumption) ?_
              simp only [List.set_cons_zero, List.set_cons_succ]
              refine held_take 23 77 (.pointer (some ⟨m, 2, none⟩)) rfl rfl (by kernel_rfl) (by kernel_rfl) (by kernel_rfl) (fun _ _ _ h => nomatch h.1) (Or.inl ⟨wanted_plain rfl _, fun w hSw => by kernel_rfl⟩) (by assumption) ?_
              simp only [List.set_cons_zero, List.set_cons_succ]
              refine wpAnyH_ready (rs := [24]) (by kernel_rfl) (by simp) ?_
              refine AllReadyH.cons (o := _) rfl (fun K hK => ?_) ?_
              · skip
                have m2 := Blk.cell B9 2
                change _ = some (Value.slice none 0 0) at m2
                have mf := Blk.frozen B9 2
                refine step_skip' (w' := W9.setCell ⟨m, 2, none⟩ (.slice (some ⟨ru, 0, none⟩) 1 rv)) rfl rfl (exec_store 77 (.tmp 77) (.tmp 75) rfl rfl rfl (by go_simp)) ?_
                have F10 : Fm (M1 m) W6 (W9.setCell ⟨m, 2, none⟩ (.slice (some ⟨ru, 0, none⟩) 1 rv)) := Fm.set1 F9 2 _
                refine hK.out _ _ (HS6.out _ F10) (fun hHeld => ?_)
                clear hK K
                refine wpAnyH_done (by kernel_rfl) ?_ _
                exact ⟨rfl, ⟨_, _, _, _, _, _, _, _, _, _, _, _, _, _, _, _, _, _, _, _, _, _, _, _, rfl⟩, _, _, _, B9.set_ 2 _, F10⟩
              exact AllReadyH.nil
            exact AllReadyH.nil
          exact AllReadyH.nil
        exact AllReadyH.nil
      exact AllReadyH.nil
    exact AllReadyH.nil
  rintro e a' W8 ⟨rfl, ⟨y54, y55, y56, y57, y58, y59, y60, y61, y62, y63, y64, y65, y66, y67, y68, y69, y70, y71, y72, y73, y74, y75, y76, y77, rfl⟩, Au, nu, cu, hm8, hf8⟩
  have hx8 := HX6.out.fm hf8 (show ¬ M1 m T from Nat.ne_of_lt hTm)
  have t2' := hx8.cell 2
  change _ = some (Value.slice (some ⟨ro, 0, none⟩) 1 c2) at t2'
  have HM8 := Lib.hid hm8
  have HF8 := Lib.hid hf8
  clear hm8 hf8 hx8 t1 t2 o0 o1
  go_wp2_with fail
  rw [rounds_succ]
  go_wp2
  go_ret
  have hi8 := HI6.out.fm HF8.out (show ¬ M1 m ib from Nat.ne_of_gt hib)
  have hr8 : W8.cell? ⟨rn, 0, none⟩ = some (.pointer (some ⟨ib, 0, none⟩)) := (World.cell?_of_block (w := W6) (HF8.out.block rn (World.block_lt_of_cell? _ _ HR6.out) (show ¬ M1 m rn from Nat.ne_of_gt hrn))).trans HR6.out
  have hb6 : Below w.heap.size w W6 := Below.fm HB5.out HF6.out HB5.out.size (fun k hk h => by have h' : k = m := h; omega)
  have hb8 : Below w.heap.size w W8 := Below.fm hb6 HF8.out hb6.size (fun k hk h => by have h' : k = m := h; omega)
  exact ⟨m, ib, rn, rc, A6, c6, _, rfl, HM8.out, ⟨_, _, _, rfl⟩, hr8, hi8.cell 33, hi8.cell 35, hb8⟩

theorem tx_said : TxSaid inCells.toArray := fun w ri ro c1 c2 ver lock hi ho => txOf_any w ri ro c1 c2 ver lock hi ho
end Go.Proofs.YtkgihpebghmnbaaGreatDoor
