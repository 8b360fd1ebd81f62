/- A new machine with two scripts, neither of them empty, and a transaction of any number of inputs (printed by gen_new2.py). The run of a spend that pays a key, with a signature of the strict form. impl.SigHash. (Printed by gen_sgh.py.) -/
import Derived.Test.YtkgihpebghmnbaaGreatDoorG37
import Derived.Test.YtkgihpebghmnbaaGreatDoorG34
import Derived.Test.YtkgihpebghmnbaaGreatDoorTxf
import Derived.Test.YtkgihpebghmnbaaGreatDoorG33
import Derived.Test.YtkgihpebghmnbaaGreatDoorG15
namespace Go.Proofs.YtkgihpebghmnbaaGreatDoor
open Go.RowKit Go.Proofs

set_option maxRecDepth 100000

/-- The cells of a new machine before its first script. -/
def cells2 (mn : Bool) (fl : Int) (amount : Int) (fetch ver txin txout lock : Value) (sb idx : Nat) (sig : Value) : Array Value :=
  #[.int .u32 fl, ver, txin, txout, lock, .int .i64 idx, .int .u16 0, .bool false, .pointer none, .pointer none, fetch, .slice (some ⟨sb, 0, none⟩) 2 2, .int .i64 0, .int .i64 0, .int .i64 0, sig, .int .u16 0, .int .i32 0, .int .i32 (-1), .pointer none, .slice none 0 0, .nilIface, .slice none 0 0, .slice none 0 0, .bool mn, .slice none 0 0, .bool mn, .slice none 0 0, .int .i64 0, .int .i64 0, .slice none 0 0, .int .i64 amount, .pointer none, .nilFunc]

theorem cells_fill2 (fl amount : Int) (fty : TypeId) (fx : Value) (A Ri oA : Option Addr) (n c sb idx rn rc on oc : Nat) (ver lock : Int) :
    ((((((((((((((cells0 fl amount (.iface fty fx)).setIfInBounds 11 (.slice (some ⟨sb, 0, none⟩) 2 2)).setIfInBounds 15 (.slice A n c)).setIfInBounds 16 (.int .u16 0)).setIfInBounds 17 (.int .i32 0)).setIfInBounds 18 (.int .i32 (-1))).setIfInBounds 19 (.pointer none)).setIfInBounds 20 (.slice none 0 0)).setIfInBounds 21 .nilIface).setIfInBounds 1 (.int .i32 ver)).setIfInBounds 2 (.slice Ri rn rc)).setIfInBounds 3 (.slice oA on oc)).setIfInBounds 4 (.int .u32 lock)).setIfInBounds 5 (.int .i64 idx)) = cells2 false fl amount (.iface fty fx) (.int .i32 ver) (.slice Ri rn rc) (.slice oA on oc) (.int .u32 lock) sb idx (.slice A n c) := by kernel_rfl

theorem cells_fill2m (fl amount : Int) (fty : TypeId) (fx : Value) (A Ri oA : Option Addr) (n c sb idx rn rc on oc : Nat) (ver lock : Int) :
    ((((((((((((((((cells0 fl amount (.iface fty fx)).setIfInBounds 11 (.slice (some ⟨sb, 0, none⟩) 2 2)).setIfInBounds 24 (.bool true)).setIfInBounds 26 (.bool true)).setIfInBounds 15 (.slice A n c)).setIfInBounds 16 (.int .u16 0)).setIfInBounds 17 (.int .i32 0)).setIfInBounds 18 (.int .i32 (-1))).setIfInBounds 19 (.pointer none)).setIfInBounds 20 (.slice none 0 0)).setIfInBounds 21 .nilIface).setIfInBounds 1 (.int .i32 ver)).setIfInBounds 2 (.slice Ri rn rc)).setIfInBounds 3 (.slice oA on oc)).setIfInBounds 4 (.int .u32 lock)).setIfInBounds 5 (.int .i64 idx)) = cells2 true fl amount (.iface fty fx) (.int .i32 ver) (.slice Ri rn rc) (.slice oA on oc) (.int .u32 lock) sb idx (.slice A n c) := by kernel_rfl

/-- What such a machine is. -/
def New2 (mn : Bool) (N : Nat) (w : World) (idx n c : Nat) (A : Option Addr) (fl amount : Int) (fetch : Value) (ts0 : List Tok) (t : TX) (e : Ending) (w' : World) : Prop :=
  ∃ g sb As cs1 n0 Vi Vo, e = .returned (.tuple #[.pointer (some ⟨g, 0, none⟩), .nilIface]) ∧ w.heap.size ≤ g ∧ w.heap.size ≤ sb ∧ g < sb ∧
    Blk w' g 111 (cells2 mn fl amount fetch (.int .i32 t.ver) Vi Vo (.int .u32 t.lock) sb idx (.slice As n0 cs1)) ∧
    Blk w' sb 30 #[.slice As n0 cs1, .slice A n c] ∧ Below w.heap.size w w' ∧ TxRows N w' Vi Vo t ∧ Rd 0 w' (.slice As n0 cs1) (code ts0) ∧ n0 = (code ts0).length

set_option maxHeartbeats 2000000 in
theorem newEngine_two (w : World) (tb n c idx : Nat) (fl amount : Int) (fty : TypeId) (fx : Value) (A : Option Addr) (ts0 ts : List Tok) (t : TX) (p : TI)
    (hfl : Flags fl) (hpub : Rd 0 w (.slice A n c) (code ts)) (hts : ∀ t ∈ ts, TokS t) (hn0 : 0 < n) (hn : n ≤ 10000) (N : Nat) (hN : N ≤ w.heap.size) (htx : TxAt N w tb 0 t) (hTS : TxSig w tb t) (hni : t.ins.length ≤ 1000000) (hp : t.ins[idx]? = some p) (hsc : p.scr = code ts0) (hts0 : ∀ t ∈ ts0, TokS t) (hs0 : 0 < (code ts0).length) (hs1 : (code ts0).length ≤ 10000) :
    Calls Tryz.prog 32 #[.slice A n c, .pointer (some ⟨tb, 0, none⟩), .int .i64 idx, .int .u32 fl, .pointer none, .pointer none, .int .i64 amount, .iface fty fx] w (New2 false N w idx n c A fl amount (.iface fty fx) ts0 t) := by
  have hil := (List.getElem?_eq_some_iff.1 hp).1
  obtain ⟨Ri, ci, Ro, co, vi, vo, h4, hC1, hA1, hI, hC2, hA2, hO⟩ := htx.ex
  have htbl := h4.lt
  have HROW : Hid (TxRows N w (.slice Ri t.ins.length ci) (.slice Ro t.outs.length co) t) := ⟨Ri, ci, Ro, co, vi, vo, rfl, rfl, hC1, hA1, hI, hC2, hA2, hO⟩
  obtain ⟨R', c', vs, k1, hCs, hIs⟩ := hTS
  have hRe : R' = Ri := by
    have := k1.symm.trans h4.c1
    injection this with this
    injection this
  clear k1
  subst hRe
  obtain ⟨rb, ro, rfl, hr⟩ := hCs.2 (by omega)
  have hil' : idx < vs.length := by rw [hIs.1]; exact hil
  have hvi : vs[idx]? = some vs[idx] := List.getElem?_eq_some_iff.2 ⟨hil', rfl⟩
  have hrow := hr idx _ hvi
  obtain ⟨ib, ck, As, cs1, e1, hblk, -, -, -, e2, hcap, how⟩ := hIs.2 idx _ _ hvi hp
  rw [e1] at hrow
  have hsig : w.cell? ⟨ib, 33, none⟩ = some ck.sv := (hblk.cell 33).trans (by rw [List.getElem?_toArray]; exact ck.at33)
  rw [e2, hsc] at hsig
  rw [hsc] at hcap how
  have hrs : Rd 0 w (.slice As (code ts0).length cs1) (code ts0) := Rd.of_own (B := 0) how (by decide)
  clear hr hvi hil' e1 e2 hblk hcap how hC2 hA2 hO hI hC1 hA1 hCs hIs htx
  have hib := World.block_lt_of_cell? w _ hsig
  have T4 := Lib.hid h4
  have t1 := h4.c1
  clear h4
  have HSC := Lib.hid hrs
  have HS0 := Lib.hid hts0
  clear hrs hts0
  generalize hn00 : (code ts0).length = n0 at *
  generalize hrn : t.ins.length = rn at *
  generalize hon : t.outs.length = on at *
  have hil1 : (idx : Int) < (rn : Int) := by omega
  have hil2 : ¬ ((idx : Int) < 0) := by omega
  have hil3 : decide ((rn : Int) ≤ (idx : Int)) = false := by simp; omega
  have hil4 : decide ((idx : Int) < 0) = false := by simp
  have hz1 : ¬ ((n0 : Int) = 0) := by omega
  have hz2 : ((n0 : Int) == 0) = false := by simp; omega
  have hz3 : (n0 : Int) ≤ 10000 := by omega
  have hn1 : ¬ ((n : Int) = 0) := by omega
  have hn2 : ((n : Int) == 0) = false := by simp; omega
  have hn3 : (n : Int) ≤ 10000 := by omega
  have HT := Lib.hid hts
  have HP := Lib.hid hpub
  have HF := Lib.hid hfl
  clear hts hpub hfl
  go_enter Tryz.func32, Tryz.ntmps32
  go_wp2_with (refine wpList_build 111 _ rfl rfl (.agg (cells0 fl amount (.iface fty fx))) (by kernel_rfl) ?_; refine Stop.mk ?_)
  refine Stop.go ?_
  go_wp2_with (refine wpList_alloc 111 rfl rfl (cells0 0 0 .nilIface) (by kernel_rfl) ?_; refine Stop.mk ?_)
  refine Stop.go ?_
  refine wpList_store_new (w := w) rfl (.tmp 20) (.tmp 69) 111 rfl rfl _ (cells0 fl amount (.iface fty fx)) rfl rfl info_engine rfl (cells0_one fl amount fty fx) ?_
  have hb1 := Blk.new w 111 (cells0 fl amount (.iface fty fx))
  have hbel1 : Below w.heap.size w (w.alloc (.cells (cells0 fl amount (.iface fty fx)) 111)) := (Below.refl _ _).alloc (Nat.le_refl _) _
  have hsz1 : w.heap.size < (w.alloc (.cells (cells0 fl amount (.iface fty fx)) 111)).heap.size := by simp
  have d0 := hb1.cell 0
  change _ = some (Value.int .u32 fl) at d0
  generalize hgg : w.heap.size = g at hb1 d0 ⊢
  have hg0 : w.heap.size ≤ g := Nat.le_of_eq hgg
  generalize w.alloc (.cells (cells0 fl amount (.iface fty fx)) 111) = W1 at *
  have hbl1 := hb1.lt
  have HB1 := Lib.hid hb1
  have HL1 := Lib.hid hbel1
  clear hb1 hbel1
  go_wp2_with fail
  refine (hasFlag_any W1 g fl 32 0 HF.out.f32 d0).mono ?_
  rintro e w' ⟨rfl, rfl⟩
  go_wp2_with fail
  refine (hasFlag_any W1 g fl 1024 0 HF.out.f1024 d0).mono ?_
  rintro e w' ⟨rfl, rfl⟩
  go_wp2_with fail
  refine (hasFlag_any W1 g fl 1 0 HF.out.f1 d0).mono ?_
  rintro e w' ⟨rfl, rfl⟩
  go_wp2_with fail
  have hb2 := HB1.out.alloc (.cells #[.slice As n0 cs1, .slice A n c] 30)
  have hr2 := Blk.new W1 30 #[.slice As n0 cs1, .slice A n c]
  have hl2 := HL1.out.alloc HL1.out.size (.cells #[.slice As n0 cs1, .slice A n c] 30)
  have hsb : w.heap.size ≤ W1.heap.size := HL1.out.size
  have hgs : g < W1.heap.size := HB1.out.lt
  generalize W1.heap.size = sb at *
  generalize W1.alloc (.cells #[.slice As n0 cs1, .slice A n c] 30) = W2 at *
  have q0 := hr2.cell 0
  change _ = some (Value.slice As n0 cs1) at q0
  have HB2 := Lib.hid hb2
  have HR2 := Lib.hid hr2
  have HL2 := Lib.hid hl2
  clear hb2 hr2 hl2 HB1 HL1 d0
  refine wp_loop_rounds 3 ?_
  rw [rounds_succ]
  go_wp2_with fail
  refine (parses W2 n0 cs1 As ts0 (HSC.out.below (B := 0) (w' := W2) HL2.out) HS0.out (by omega)).mono ?_
  rintro e W3 ⟨rfl, hb3⟩
  have HB3 := Lib.hid (HB2.out.below hb3 HB2.out.lt)
  have HR3 := Lib.hid (HR2.out.below hb3 HR2.out.lt)
  have HL3 := Lib.hid (Below.fm HL2.out (Fm.of_below (M := fun _ => False) hb3) HL2.out.size (fun _ _ h => h))
  clear hb3 HB2 HR2 HL2 q0
  have q1 := HR3.out.cell 1
  change _ = some (Value.slice A n c) at q1
  go_wp2_with fail
  rw [rounds_succ]
  go_wp2_with fail
  refine (parses W3 n c A ts (HP.out.below (B := 0) (w' := W3) HL3.out) HT.out (by omega)).mono ?_
  rintro e W4 ⟨rfl, hb4⟩
  have HB4 := Lib.hid (HB3.out.below hb4 HB3.out.lt)
  have HR4 := Lib.hid (HR3.out.below hb4 HR3.out.lt)
  have HL4 := Lib.hid (Below.fm HL3.out (Fm.of_below (M := fun _ => False) hb4) HL3.out.size (fun _ _ h => h))
  clear hb4 HB3 HR3 HL3 q1
  have e11 := HB4.out.cell 11
  change _ = some (Value.slice none 0 0) at e11
  have hfz := HB4.out.frozen
  have hbl4 := HB4.out.lt
  go_wp2_with fail
  rw [rounds_succ]
  go_wp2_with fail
  have hb5 := HB4.out.set_ 11 (.slice (some ⟨sb, 0, none⟩) 2 2)
  have hr5 := HR4.out.far (p := ⟨g, 11, none⟩) (Nat.ne_of_gt hgs) (.slice (some ⟨sb, 0, none⟩) 2 2)
  have hl5 := HL4.out.setCell (p := ⟨g, 11, none⟩) hg0 (.slice (some ⟨sb, 0, none⟩) 2 2)
  clear e11 hfz hbl4 HB4 HR4 HL4
  generalize W4.setCell ⟨g, 11, none⟩ (.slice (some ⟨sb, 0, none⟩) 2 2) = W5 at *
  have HB5 := Lib.hid hb5
  have HR5 := Lib.hid hr5
  have HL5 := Lib.hid hl5
  clear hb5 hr5 hl5
  have d0 := HB5.out.cell 0
  change _ = some (Value.int .u32 fl) at d0
  have hfz5 := HB5.out.frozen
  have hbl5' := HB5.out.lt
  refine (hasFlag_any W5 g fl 256 0 HF.out.f256 d0).mono ?_
  rintro e w' ⟨rfl, rfl⟩
  go_wp2_with fail
  refine (hasFlag_any W5 g fl 4096 0 HF.out.f4096 d0).mono ?_
  rintro e w' ⟨rfl, rfl⟩
  have q1 := HR5.out.cell 0
  change _ = some (Value.slice As n0 cs1) at q1
  have e12 := HB5.out.cell 12
  change _ = some (Value.int .i64 0) at e12
  have hbl5 := HB5.out.lt
  go_wp2_with fail
  refine (mkTok_any W5 As n0 cs1).mono ?_
  rintro e W6 ⟨rfl, hb6⟩
  have HB6 := Lib.hid (HB5.out.below hb6 HB5.out.lt)
  have HR6 := Lib.hid (HR5.out.below hb6 HR5.out.lt)
  have HL6 := Lib.hid (Below.fm HL5.out (Fm.of_below (M := fun _ => False) hb6) HL5.out.size (fun _ _ h => h))
  clear hb6 HB5 HR5 HL5 q1 e12 d0 hbl5
  have x1 := HB6.out.cell 1
  change _ = some (Value.int .i32 0) at x1
  have x2 := HB6.out.cell 2
  change _ = some (Value.slice none 0 0) at x2
  have x3 := HB6.out.cell 3
  change _ = some (Value.slice none 0 0) at x3
  have x4 := HB6.out.cell 4
  change _ = some (Value.int .u32 0) at x4
  have x5 := HB6.out.cell 5
  change _ = some (Value.int .i64 0) at x5
  have x15 := HB6.out.cell 15
  change _ = some (Value.slice none 0 0) at x15
  have x16 := HB6.out.cell 16
  change _ = some (Value.int .u16 0) at x16
  have x17 := HB6.out.cell 17
  change _ = some (Value.int .i32 0) at x17
  have x18 := HB6.out.cell 18
  change _ = some (Value.int .i32 0) at x18
  have x19 := HB6.out.cell 19
  change _ = some (Value.pointer none) at x19
  have x20 := HB6.out.cell 20
  change _ = some (Value.slice none 0 0) at x20
  have x21 := HB6.out.cell 21
  change _ = some Value.nilIface at x21
  have hfz := HB6.out.frozen
  have hbl6 := HB6.out.lt
  have T6 := T4.out.below HL6.out htbl
  have y0 := T6.c0
  have y1 := T6.c1
  have y2 := T6.c2
  have y3 := T6.c3
  have hne : tb ≠ g := by omega
  have hne2 : g ≠ tb := Ne.symm hne
  clear T6
  go_wp2_with fail
  go_ret2
  have hB := ((((((((((((HB6.out.set_ 15 (.slice As n0 cs1)).set_ 16 (.int .u16 0)).set_ 17 (.int .i32 0)).set_ 18 (.int .i32 (-1))).set_ 19 (.pointer none)).set_ 20 (.slice none 0 0)).set_ 21 .nilIface).set_ 1 (.int .i32 t.ver)).set_ 2 (.slice (some ⟨rb, ro, none⟩) rn ci)).set_ 3 (.slice Ro on co)).set_ 4 (.int .u32 t.lock)).set_ 5 (.int .i64 idx))
  have hR := ((((((((((((HR6.out.far (p := ⟨g, 15, none⟩) (Nat.ne_of_gt hgs) (.slice As n0 cs1)).far (p := ⟨g, 16, none⟩) (Nat.ne_of_gt hgs) (.int .u16 0)).far (p := ⟨g, 17, none⟩) (Nat.ne_of_gt hgs) (.int .i32 0)).far (p := ⟨g, 18, none⟩) (Nat.ne_of_gt hgs) (.int .i32 (-1))).far (p := ⟨g, 19, none⟩) (Nat.ne_of_gt hgs) (.pointer none)).far (p := ⟨g, 20, none⟩) (Nat.ne_of_gt hgs) (.slice none 0 0)).far (p := ⟨g, 21, none⟩) (Nat.ne_of_gt hgs) .nilIface).far (p := ⟨g, 1, none⟩) (Nat.ne_of_gt hgs) (.int .i32 t.ver)).far (p := ⟨g, 2, none⟩) (Nat.ne_of_gt hgs) (.slice (some ⟨rb, ro, none⟩) rn ci)).far (p := ⟨g, 3, none⟩) (Nat.ne_of_gt hgs) (.slice Ro on co)).far (p := ⟨g, 4, none⟩) (Nat.ne_of_gt hgs) (.int .u32 t.lock)).far (p := ⟨g, 5, none⟩) (Nat.ne_of_gt hgs) (.int .i64 idx))
  have hL := ((((((((((((HL6.out.setCell (p := ⟨g, 15, none⟩) hg0 (.slice As n0 cs1)).setCell (p := ⟨g, 16, none⟩) hg0 (.int .u16 0)).setCell (p := ⟨g, 17, none⟩) hg0 (.int .i32 0)).setCell (p := ⟨g, 18, none⟩) hg0 (.int .i32 (-1))).setCell (p := ⟨g, 19, none⟩) hg0 (.pointer none)).setCell (p := ⟨g, 20, none⟩) hg0 (.slice none 0 0)).setCell (p := ⟨g, 21, none⟩) hg0 .nilIface).setCell (p := ⟨g, 1, none⟩) hg0 (.int .i32 t.ver)).setCell (p := ⟨g, 2, none⟩) hg0 (.slice (some ⟨rb, ro, none⟩) rn ci)).setCell (p := ⟨g, 3, none⟩) hg0 (.slice Ro on co)).setCell (p := ⟨g, 4, none⟩) hg0 (.int .u32 t.lock)).setCell (p := ⟨g, 5, none⟩) hg0 (.int .i64 idx))
  rw [cells_fill2] at hB
  refine ⟨g, sb, As, cs1, n0, .slice (some ⟨rb, ro, none⟩) rn ci, .slice Ro on co, rfl, hg0, hsb, hgs, hB, hR, hL, ?_, HSC.out.below (B := 0) hL, hn00.symm⟩
  have h := HROW.out
  exact h.below (hL.mono hN)
end Go.Proofs.YtkgihpebghmnbaaGreatDoor

namespace Go.Proofs.YtkgihpebghmnbaaGreatDoor
open Go.RowKit Go.Proofs

set_option maxRecDepth 100000

theorem pushT_mid {d : List UInt8} (h1 : 2 ≤ d.length) (h2 : d.length ≤ 75) : pushT d = ⟨d.length, d⟩ := by
  unfold pushT
  rw [if_neg (by omega), if_neg (by omega), if_neg (by omega), if_pos h2]

/-- The script that pays a key. -/
def payT (key : List UInt8) : List Tok := [pushT key, ⟨172, []⟩]
theorem payT_mid {key : List UInt8} (h : key.length = 33) : payT key = [⟨33, key⟩, ⟨172, []⟩] := by
  unfold payT
  rw [pushT_mid (by omega) (by omega), h]
theorem payT_tok {key : List UInt8} (h : key.length = 33) : ∀ t ∈ payT key, TokS t := by
  intro t ht
  rw [payT_mid h] at ht
  rcases List.mem_cons.1 ht with rfl | ht
  · exact .inr (.inl ⟨show 1 ≤ 33 by omega, show 33 ≤ 75 by omega, h⟩)
  · rw [List.mem_singleton] at ht
    subst ht
    exact .inl ⟨rfl, .inr (show 78 < 172 by omega), (show 172 ≤ 255 by omega), _, op172⟩
theorem payT_sep {key : List UInt8} (h : key.length = 33) : ∀ t ∈ payT key, t.op ≠ 171 := by
  intro t ht
  rw [payT_mid h] at ht
  rcases List.mem_cons.1 ht with rfl | ht
  · exact show 33 ≠ 171 by omega
  · rw [List.mem_singleton] at ht
    subst ht
    exact show 172 ≠ 171 by omega
theorem payT_can {key : List UInt8} (h : key.length = 33) : ∀ t ∈ payT key, Canon t := by
  intro t ht
  rw [payT_mid h] at ht
  rcases List.mem_cons.1 ht with rfl | ht
  · exact .inr ⟨show 2 ≤ 33 by omega, show 33 ≤ 75 by omega, h⟩
  · rw [List.mem_singleton] at ht
    subst ht
    exact .inl ⟨show 96 < 172 by omega, show 172 ≤ 255 by omega, rfl⟩
theorem payT_short {key : List UInt8} (h : key.length = 33) : ∀ t ∈ payT key, t.data.length ≠ 13 := by
  intro t ht
  rw [payT_mid h] at ht
  rcases List.mem_cons.1 ht with rfl | ht
  · exact show key.length ≠ 13 by omega
  · rw [List.mem_singleton] at ht
    subst ht
    exact show 0 ≠ 13 by omega
theorem payT_code {key : List UInt8} (h : key.length = 33) : code (payT key) = 33 :: (key ++ [172]) := by
  rw [payT_mid h]
  simp [code, Tok.enc]
theorem payT_length {key : List UInt8} (h : key.length = 33) : (code (payT key)).length = 35 := by
  rw [payT_code h]
  simp [h]

/-- What a signed run leaves. -/
def SigR (g : Nat) (B : Bd) (w : World) (ok : Bool) (r : Value) (w' : World) : Prop :=
  ((r = .nilIface ∧ ok = true) ∨ (Fault r ∧ ok = false)) ∧ Fs g B w w' ∧ ∃ cs', Vm w' g B cs' []

/-- What the run of a signed spend needs of the machine. -/
structure SpIn (kc : Nat → Int) (w : World) (g : Nat) (B : Bd) (cs : Array Value) (fl : Int) (st de nf : Bool) (sb idx : Nat) (t : TX) : Prop where
  fs : FlS fl st de nf
  f32 : bits .and .u32 fl 32 = 0
  h0 : cs[0]? = some (.int .u32 fl)
  tx : ∃ Vi Vo, cs[1]? = some (.int .i32 t.ver) ∧ cs[2]? = some Vi ∧ cs[3]? = some Vo ∧ cs[4]? = some (.int .u32 t.lock) ∧ TxRows g w Vi Vo t
  h5 : cs[5]? = some (.int .i64 idx)
  sbB : sb < B.n
  sbg : sb ≠ g
  gB : g ≤ B.n
  ix : idx < t.ins.length
  ni : t.ins.length ≤ 1000000
  no : t.outs.length ≤ 1000000
  kt : KT kc w
  kB : 3 < B.n
  kg : 3 ≠ g

theorem SpIn.sig {kc : Nat → Int} {w w' : World} {g : Nat} {B : Bd} {cs cs' : Array Value} {fl : Int} {st de nf : Bool} {sb n c idx k oi off : Nat} {A : Option Addr} {ts : List Tok} {t : TX} {sl : Value} {pos : Int} (h : SpIn kc w g B cs fl st de nf sb idx t)
    (hb : Blk w g 111 cs) (hf : Fs g B w w') (hk : ∀ i, i < 12 → cs'[i]? = cs[i]?) (he : En cs' sb 1 k oi sl off pos)
    (sc : w.cell? ⟨sb, 1, none⟩ = some (.slice A n c)) (rd : Rd 0 w (.slice A n c) (code ts)) (toks : ∀ t ∈ ts, TokS t) (sep : ∀ t ∈ ts, t.op ≠ 171) (can : ∀ t ∈ ts, Canon t) (short : ∀ t ∈ ts, t.data.length ≠ 13) (n0 : 0 < n) (n1 : n ≤ 100000) :
    SigIn kc w' g B cs' fl st de nf sb 1 n c idx A ts t := by
  obtain ⟨Vi, Vo, t1, t2, t3, t4, t5⟩ := h.tx
  exact { fs := h.fs, h0 := (hk 0 (by omega)).trans h.h0, tx := ⟨Vi, Vo, (hk 1 (by omega)).trans t1, (hk 2 (by omega)).trans t2, (hk 3 (by omega)).trans t3, (hk 4 (by omega)).trans t4, t5.below (hf.belowg h.gB (Nat.le_of_lt hb.lt))⟩
          h5 := (hk 5 (by omega)).trans h.h5, h11 := he.c11, h12 := he.c12, h14 := he.c14, h30 := he.c30, h32 := he.c32
          si2 := by omega, sc := hf.cell sc h.sbB h.sbg, scB := h.sbB, scg := h.sbg, gB := h.gB, rd := hf.rd hb rd, toks := toks, sep := sep, can := can, short := short, n0 := n0, n1 := n1, ix := h.ix, ni := h.ni, no := h.no
          kt := h.kt.frm hf (by rintro (e | ⟨e, -⟩); exact h.kg e; have := h.kB; omega), kB := h.kB, kg := h.kg }

theorem En.set28 {cs : Array Value} {sb si k oi off : Nat} {sl : Value} {pos : Int} (h : En cs sb si k oi sl off pos) (k' : Nat) (u : Value) (hu : u = .int .i64 k') : En (cs.setIfInBounds 28 u) sb si k' oi sl off pos :=
  h.k2 (fun i h1 h2 => by rw [Array.getElem?_setIfInBounds, if_neg (fun e => h2 e.symm)]) (by rw [get_here h.c28, hu])

theorem execute_pay (kc : Nat → Int) {w : World} {g : Nat} {B : Bd} {sb pb0 po0 n0 c0 pb po n c idx b : Nat} {cs : Array Value} {fl : Int} {st de nf : Bool} {t : TX} (m0 m1 m2 m3 k : UInt8) (k0 : UInt8) (kr : List UInt8) (any : Bool)
    (hV : Vm w g B cs []) (hE : En cs sb 0 0 0 (.slice (some ⟨pb0, po0, none⟩) n0 c0) 0 (-1)) (h24 : cs[24]? = some (.bool false)) (h33 : cs[33]? = some .nilFunc)
    (hrd0 : Rd 0 w (.slice (some ⟨pb0, po0, none⟩) n0 c0) (code [pushT (sigB m0 m1 m2 m3 k)]))
    (hsb : w.cell? ⟨sb, 1, none⟩ = some (.slice (some ⟨pb, po, none⟩) n c)) (hrd : Rd 0 w (.slice (some ⟨pb, po, none⟩) n c) (code (payT (k0 :: kr))))
    (hI : SpIn kc w g B cs fl st de nf sb idx t) (hkr : kr.length = 32) (hk0 : k0 = 2 ∨ k0 = 3)
    (hb : bits .and .u32 k.toNat 31 = b) (hb3 : b = 1 ∨ b = 2 ∨ b = 3) (hany : bits .and .u32 k.toNat 128 = if any then 128 else 0) (hbb : bits .and .u32 k.toNat 4294967167 = b) :
    Calls Tryz.prog 23 #[.pointer (some ⟨g, 0, none⟩)] w fun e w' => ∃ r, e = .returned r ∧ Ret r ∧ SigR g B w (sigOk kc (payT (k0 :: kr)) m0 m1 m2 m3 k b any idx t (k0 :: kr)) r w' := by
  have hkl : (k0 :: kr).length = 33 := by simp [hkr]
  have hn0 : n0 = 14 := by rw [hrd0.len.1]; rfl
  have hn : n = 35 := by rw [hrd.len.1, payT_length hkl]
  generalize hkk : k0 :: kr = key at *
  generalize hok : sigOk kc (payT key) m0 m1 m2 m3 k b any idx t key = ok
  have hsl : (sigB m0 m1 m2 m3 k).length = 13 := rfl
  have hse : (pushT (sigB m0 m1 m2 m3 k)).enc.length = 14 := rfl
  have hke : (pushT key).enc.length = 34 := by rw [pushT_mid (by omega) (by omega)]; simp [Tok.enc, hkl]
  have hgo : Goes g (SigR g B w ok) 3 w := by
    obtain ⟨nm, dA, dc, i⟩ := stepIn_tok (t := pushT (sigB m0 m1 m2 m3 k)) (rest := []) (xs1 := [sigB m0 m1 m2 m3 k]) (G := True) (F := False) (k' := 0) hV hE (by omega) (by omega) (by omega) (by simp) hrd0
      (by simp [code]) (tokS_pushT _ (by omega)) (by omega) (by omega)
      (fun dA dc w1 cs1 hr hv1 he1 hk1 _ hob _ => push_gen (xss := []) _ (by omega) false hv1 he1 ((hk1 24 (by omega)).trans h24) (by simp) hob rfl hr)
    refine goes_turn i (by omega) h33 hsb hI.sbB hI.sbg (by omega) ?_ (fun _ _ _ _ hF _ _ => hF.elim)
    intro w1 cs1 _ hv1 he1 hk1 hf1
    have hrd1 := hf1.rd hV.blk hrd
    have hcode : code (payT key) = (pushT key).enc ++ [172] := by simp [payT, code, Tok.enc]
    obtain ⟨nm, dA, dc, i⟩ := stepIn_tok (t := pushT key) (rest := [172]) (xs1 := [sigB m0 m1 m2 m3 k, key]) (G := True) (F := False) (k' := 0) hv1 he1 (by omega) (by omega) (by omega) (by simp) hrd1
      (by rw [hcode]; rfl) (tokS_pushT _ (by omega)) (by omega) (by omega)
      (fun dA dc w1' cs1' hr hv1' he1' hk1' _ hob _ => push_gen (xss := [sigB m0 m1 m2 m3 k]) key (by omega) false hv1' he1' ((hk1' 24 (by omega)).trans ((hk1 24 (by omega)).trans h24)) (by simp) hob rfl hr)
    refine goes_mid i (by omega) ((hk1 33 (by omega)).trans h33) ?_ (fun _ _ _ _ hF _ _ => hF.elim)
    intro w2 cs2 _ hv2 he2 hk2 hf2
    have hrd2 := hf2.rd hv1.blk hrd1
    have hf02 := hf1.trans hf2
    have hk02 := hk1.trans hk2
    have hex : ∀ dA dc w3 cs3, Rd 0 w3 (.slice dA (Tok.mk 172 []).data.length dc) (Tok.mk 172 []).data → Vm w3 g B cs3 [sigB m0 m1 m2 m3 k, key] → En cs3 sb 1 0 (0 + 1) (.slice (some ⟨pb, po, none⟩) n c) (0 + (pushT key).enc.length + (Tok.mk 172 []).enc.length) ((-1 + 1 : Int) + 1) → Kp cs2 cs3 → Fs g B w2 w3 →
        w3.cell? ⟨w2.heap.size, 0, none⟩ = some (.int .u8 (172 : Nat)) → w2.heap.size ≠ g →
        Calls Tryz.prog 56 #[.pointer (some ⟨g, 0, none⟩), .pointer (some ⟨w2.heap.size, 0, none⟩), .slice dA (Tok.mk 172 []).data.length dc] w3 (Ran w3 g B cs3 1 (if ok = false ∧ nf = true then [] else [boolB ok]) (ok = true ∨ nf = false) (ok = false ∧ nf = true)) := by
      intro dA dc w3 cs3 hr hv3 he3 hk3 hf3 hob hne
      refine great_ran (k := 0) hv3 he3 ((hk3 24 (by omega)).trans ((hk02 24 (by omega)).trans h24)) (by omega) (by omega) (by omega) (by omega) plain172 runs172 hob hne ?_
      intro w4 hv4 hf4 hcell
      have hf04 := (hf02.trans hf3).trans hf4
      have he4 := he3.set28 1 (.int .i64 (((0 : Nat) : Int) + 1)) rfl
      have hk4 : ∀ i, i < 12 → (cs3.setIfInBounds 28 (.int .i64 (((0 : Nat) : Int) + 1)))[i]? = cs[i]? := fun i hi => by
        rw [Array.getElem?_setIfInBounds, if_neg (by omega)]
        exact (hk3 i (.inl hi)).trans (hk02 i (.inl hi))
      have hSI := hI.sig (ts := payT key) hV.blk hf04 hk4 he4 hsb hrd (payT_tok hkl) (payT_sep hkl) (payT_can hkl) (payT_short hkl) (by omega) (by omega)
      have hv5 : Vm w4 g B (cs3.setIfInBounds 28 (.int .i64 (((0 : Nat) : Int) + 1))) ([] ++ [sigB m0 m1 m2 m3 k] ++ [k0 :: kr]) := by
        rw [hkk]
        exact hv4
      refine (checkSig_vm kc w4 g B _ [] fl st de nf sb 1 n c idx b (some ⟨pb, po, none⟩) (payT key) t m0 m1 m2 m3 k k0 kr any _ _ hv5 (by simp) hSI hkr hk0 hb hb3 hany hbb).mono ?_
      rintro e w5 ⟨r, rfl, h⟩
      rw [hkk, hok] at h
      obtain ⟨h1, h2⟩ := h
      by_cases hc : ok = false ∧ nf = true
      · obtain ⟨hF, cs', hv6, hk6, hf6⟩ := h2 hc
        exact ⟨r, rfl, .inr ⟨hF, hc⟩, cs', by rw [if_pos hc]; exact hv6, hk6, hf6⟩
      · have hg : ok = true ∨ nf = false := by cases ok <;> cases nf <;> simp at hc ⊢
        obtain ⟨rfl, cs', hv6, hk6, hf6⟩ := h1 hg
        exact ⟨_, rfl, .inl ⟨rfl, hg⟩, cs', by rw [if_neg hc]; exact hv6, hk6, hf6⟩
    obtain ⟨nm, dA, dc, i⟩ := stepIn_tok (t := ⟨172, []⟩) (rest := []) (xs1 := if ok = false ∧ nf = true then [] else [boolB ok]) (G := ok = true ∨ nf = false) (F := ok = false ∧ nf = true) (k' := 1) hv2 he2 (by omega) (by omega) (by omega) (by split <;> simp) hrd2
      (by rw [hcode, Nat.zero_add, List.drop_left]; rfl) (.inl ⟨rfl, .inr (show 78 < 172 by omega), (show 172 ≤ 255 by omega), _, op172⟩) (by omega) (by omega) hex
    have hl172 : (Tok.mk 172 []).enc.length = 1 := rfl
    refine goes_end i (by omega) ((hk02 33 (by omega)).trans h33) ?_ ?_
    · intro w3 cs3 hG hv3 h12 hk3 hf3
      have hc : ¬ (ok = false ∧ nf = true) := by rintro ⟨e1, e2⟩; rcases hG with e | e <;> simp [e1, e2] at e
      rw [if_neg hc] at hv3
      have hk03 := hk02.trans hk3
      refine (check_v w3 g B sb fl cs3 [] ok hv3 (by simp) ((hk03 0 (by omega)).trans hI.h0) hI.f32 ((hk03 30 (by omega)).trans hE.c30) ((hk03 32 (by omega)).trans hE.c32) ((hk03 11 (by omega)).trans hE.c11) h12).mono ?_
      rintro e w4 ⟨r, rfl, hr, cs4, hv4, hk4, hf4⟩
      refine ⟨r, rfl, ?_, hr, (hf02.trans hf3).trans hf4, cs4, hv4⟩
      rcases hr with ⟨rfl, -⟩ | ⟨h, -⟩
      · exact .inl rfl
      · exact .inr h
    · intro r w3 cs3 hFt hF hv3 hf3
      rw [if_pos hF] at hv3
      exact ⟨.inr ⟨hFt, hF.1⟩, hf02.trans hf3, cs3, hv3⟩
  refine (execute_goes w g 3 _ hgo hV.blk.lt ((hV.blk.cell 6).trans hE.c6) ((hV.blk.cell 33).trans h33)).mono ?_
  rintro e w' h
  exact h
end Go.Proofs.YtkgihpebghmnbaaGreatDoor

namespace Go.Proofs.YtkgihpebghmnbaaGreatDoor
open Go.RowKit Go.Proofs

set_option maxRecDepth 100000

set_option maxHeartbeats 4000000 in
theorem sigHash_any (kc : Nat → Int) (B : Nat) (w : World) (n c idx ci co : Nat) (A Ai Ao : Option Addr) (ts : List Tok) (p : PT) (kind : Int) (b : Nat) (any : Bool) (hk : KT kc w) (hs : SrcTx B w Ai Ao p) (hsm : p.Small) (hrd : Rd B w (.slice A n c) (code ts))
    (hts : ∀ t ∈ ts, TokS t) (hop : ∀ t ∈ ts, t.op ≠ 171) (hn0 : 0 < n) (hn : n ≤ 100000) (hix : idx < p.ins.length) (hb : bits .and .u32 kind 31 = b) (hb3 : b = 1 ∨ b = 2 ∨ b = 3) (hany : bits .and .u32 kind 128 = if any then 128 else 0) :
    Calls Tryz.prog 7 #[.slice A n c, .int .u32 kind, .agg #[.int .i32 p.ver, .slice Ai p.ins.length ci, .slice Ao p.outs.length co, .int .u32 p.lock], .int .i64 idx] w fun e w' =>
      ∃ A' c', e = .returned (.tuple #[.slice A' 32 c', .int .i64 0]) ∧ w'.ownsRow w.heap.size 5 1 (.slice A' 32 c') 32 (bv (sigHash kc (code ts) kind b any idx p.tx)) ∧ Below w.heap.size w w' := by
  have hT := Blk.new w 27 #[.int .i32 p.ver, .slice Ai p.ins.length ci, .slice Ao p.outs.length co, .int .u32 p.lock]
  have hb1 : Below w.heap.size w (w.alloc (.cells #[.int .i32 p.ver, .slice Ai p.ins.length ci, .slice Ao p.outs.length co, .int .u32 p.lock] 27)) := (Below.refl _ _).alloc (Nat.le_refl _) _
  have hs1 := hs.below hb1
  have hr1 := hrd.below hb1
  have hk1 := hk.below hb1
  have HT := Lib.hid hT
  have HB := Lib.hid hb1
  have HS := Lib.hid hs1
  have HR := Lib.hid hr1
  have HK := Lib.hid hk1
  have HTS := Lib.hid hts
  have HOP := Lib.hid hop
  have HBB := Lib.hid hb
  have HB3 := Lib.hid hb3
  have HANY := Lib.hid hany
  have HSM := Lib.hid hsm
  clear hT hb1 hs1 hr1 hk1 hk hs hrd hts hop hb hb3 hany hsm
  go_enter Tryz.func7, Tryz.ntmps7
  go_upto_region 1 with fail
  generalize hTT : w.heap.size = T at *
  generalize w.alloc (.cells #[.int .i32 p.ver, .slice Ai p.ins.length ci, .slice Ao p.outs.length co, .int .u32 p.lock] 27) = w1 at *
  have HTx : Blk w1.drew T _ _ := HT.out
  have HBx : Below T w w1.drew := HB.out.drew
  have hTw : T < w1.heap.size := HT.out.lt
  refine wp_region_f_drew (S := (fun w' => Blk w' T 27 #[.int .i32 p.ver, .slice Ai p.ins.length ci, .slice Ao p.outs.length co, .int .u32 p.lock])) (F := []) (by kernel_rfl) (HTx) (fun hHeld => ?_)
  refine f_take 0 13 (.slice A n c) rfl rfl (by kernel_rfl) (by kernel_rfl) (by kernel_rfl) (by kernel_rfl) (fun _ _ _ h => h) (Or.inl ⟨wanted_plain rfl _, fun w hSw => by kernel_rfl⟩) (by assumption) ?_
  simp only [List.set_cons_zero, List.set_cons_succ]
  refine f_take 2 15 (.int .u32 kind) rfl rfl (by kernel_rfl) (by kernel_rfl) (by kernel_rfl) (by kernel_rfl) (fun _ _ _ h => h) (Or.inl ⟨wanted_plain rfl _, fun w hSw => by kernel_rfl⟩) (by assumption) ?_
  simp only [List.set_cons_zero, List.set_cons_succ]
  refine f_take 3 16 (.agg #[.int .i32 p.ver, .slice Ai p.ins.length ci, .slice Ao p.outs.length co, .int .u32 p.lock]) rfl rfl (by kernel_rfl) (by kernel_rfl) (by kernel_rfl) (by kernel_rfl) (fun _ _ _ h => h) (Or.inl ⟨wanted_plain rfl _, fun w hSw => exec_load 27 (.tmp 6) rfl rfl (loadAt_row w T 27 27 _ hSw Tryz.underlying27 rfl info_tx)⟩) (by assumption) ?_
  simp only [List.set_cons_zero, List.set_cons_succ]
  refine f_take 5 18 (.int .i64 idx) rfl rfl (by kernel_rfl) (by kernel_rfl) (by kernel_rfl) (by kernel_rfl) (fun _ _ _ h => h) (Or.inl ⟨wanted_plain rfl _, fun w hSw => by kernel_rfl⟩) (by assumption) ?_
  simp only [List.set_cons_zero, List.set_cons_succ]
  refine wpAnyF_ready (rs := [1]) (by kernel_rfl) (by simp) ?_
  refine AllReadyF.cons (o := _) rfl (fun K hK => ?_) AllReadyF.nil
  refine step_enter 14 18 #[.slice A n c] rfl rfl (by kernel_rfl) ?_
  refine (copied_any w1.drew B n c A (code ts) (show Rd B w1.drew _ _ from HR.out) (by omega)).mono ?_
  rintro e w2 ⟨A2, c2, rfl, ho2, hb2⟩
  replace HTx := HTx.below hb2 HTx.lt
  replace HBx := HBx.trans (hb2.mono (by rw [← hTT]; exact HBx.size))
  have hs2 := (show SrcTx B w1.drew Ai Ao p from ⟨HS.out.ins, HS.out.outs⟩).below hb2
  have hk2 := (show KT kc w1.drew from HK.out).below hb2
  have hr2 : Rd 0 w2 (.slice A2 n c2) (code ts) := Rd.of_own (by rw [show (code ts).length = n from HR.out.len.1.symm]; exact ho2) (by decide)
  have ha2 := own_at ho2
  refine ⟨_, rfl, ?_⟩
  refine hK.out _ _ (.inr (HTx)) (fun hH => ?_)
  have hHeld := hH.resolve_left (by decide)
  clear hK K hH
  try simp only [List.set_cons_zero, List.set_cons_succ]
  refine wpAnyF_ready (rs := [4]) (by kernel_rfl) (by simp) ?_
  refine AllReadyF.cons (o := _) rfl (fun K hK => ?_) AllReadyF.nil
  refine step_enter 17 19 #[.agg #[.int .i32 p.ver, .slice Ai p.ins.length ci, .slice Ao p.outs.length co, .int .u32 p.lock]] rfl rfl (by kernel_rfl) ?_
  refine (txFrom_any B w2 Ai Ao ci co p hs2 HSM.out).mono ?_
  rintro e w3 ⟨m, rfl, hm, htx, hb3, -⟩
  replace HTx := HTx.below hb3 HTx.lt
  replace HBx := HBx.trans (hb3.mono (by rw [← hTT]; exact HBx.size))
  have hk3 := hk2.below hb3
  have hr3 := hr2.below hb3
  have ha3 : ∀ x y, A2 = some ⟨x, y, none⟩ → x < w3.heap.size := fun x y e => Nat.lt_of_lt_of_le (ha2 x y e) hb3.size
  refine ⟨_, rfl, ?_⟩
  refine hK.out _ _ (.inr (HTx)) (fun hH => ?_)
  have hHeld := hH.resolve_left (by decide)
  clear hK K hH
  try simp only [List.set_cons_zero, List.set_cons_succ]
  refine wpAnyF_ready (rs := [6]) (by kernel_rfl) (by simp) ?_
  refine AllReadyF.cons (o := _) rfl (fun K hK => ?_) AllReadyF.nil
  refine step_enter 19 17 #[.slice A2 n c2, .int .u32 kind, .pointer (some ⟨m, 0, none⟩), .int .i64 idx] rfl rfl (by kernel_rfl) ?_
  have hni : p.tx.ins.length = p.ins.length := by simp [PT.tx]
  refine (calcSig_any kc w3.heap.size w3 m 0 n c2 idx A2 ts p.tx kind b any hk3 htx (Nat.le_refl _) hr3 ha3 HTS.out HOP.out hn0 hn (by omega) (by rw [hni]; exact HSM.out.ni) HSM.out.no HBB.out HB3.out HANY.out).mono ?_
  rintro e w4 ⟨g, rfl, hg, hgb, hb4⟩
  replace HTx := HTx.below hb4 HTx.lt
  replace HBx := HBx.trans (hb4.mono (by rw [← hTT]; exact HBx.size))
  refine ⟨_, rfl, ?_⟩
  refine hK.out _ _ (.inr (HTx)) (fun hH => ?_)
  have hHeld := hH.resolve_left (by decide)
  clear hK K hH
  try simp only [List.set_cons_zero, List.set_cons_succ]
  refine f_take 7 12 (.tuple #[.slice (some ⟨g, 0, none⟩) 32 32, .nilIface]) rfl rfl (by kernel_rfl) (by kernel_rfl) (by kernel_rfl) (by kernel_rfl) (fun _ _ _ h => h) (Or.inl ⟨wanted_plain rfl _, fun w hSw => by kernel_rfl⟩) (by assumption) ?_
  simp only [List.set_cons_zero, List.set_cons_succ]
  refine f_take 8 20 (.slice (some ⟨g, 0, none⟩) 32 32) rfl rfl (by kernel_rfl) (by kernel_rfl) (by kernel_rfl) (by kernel_rfl) (fun _ _ _ h => h) (Or.inl ⟨wanted_plain rfl _, fun w hSw => by kernel_rfl⟩) (by assumption) ?_
  simp only [List.set_cons_zero, List.set_cons_succ]
  refine f_take 9 21 (.nilIface) rfl rfl (by kernel_rfl) (by kernel_rfl) (by kernel_rfl) (by kernel_rfl) (fun _ _ _ h => h) (Or.inl ⟨wanted_plain rfl _, fun w hSw => by kernel_rfl⟩) (by assumption) ?_
  simp only [List.set_cons_zero, List.set_cons_succ]
  refine f_take 10 10 (.slice (some ⟨g, 0, none⟩) 32 32) rfl rfl (by kernel_rfl) (by kernel_rfl) (by kernel_rfl) (by kernel_rfl) (fun _ _ _ h => h) (Or.inl ⟨wanted_plain rfl _, fun w hSw => by kernel_rfl⟩) (by assumption) ?_
  simp only [List.set_cons_zero, List.set_cons_succ]
  refine f_take 11 11 (.nilIface) rfl rfl (by kernel_rfl) (by kernel_rfl) (by kernel_rfl) (by kernel_rfl) (fun _ _ _ h => h) (Or.inl ⟨wanted_plain rfl _, fun w hSw => by kernel_rfl⟩) (by assumption) ?_
  simp only [List.set_cons_zero, List.set_cons_succ]
  refine wpAnyF_done (by kernel_rfl) ?_ _
  have hl32 : (sigHash kc (code ts) kind b any idx p.tx).length = 32 := sigHash_length _ _ _ _ _ _ _
  have hrg : Rd 0 w4 (.slice (some ⟨g, 0, none⟩) 32 32) (sigHash kc (code ts) kind b any idx p.tx) := rd_blk hgb hl32 (by decide)
  have HC := Lib.hid (copied_any w4 0 32 32 _ _ hrg (by omega))
  have HBy := Lib.hid HBx
  clear hHeld HTx HBx hgb hrg hb4 hk3 hr3 ha3 htx hb3 hs2 hk2 hr2 ha2 ho2 hb2
  go_wp2_with fail
  refine HC.out.mono ?_
  rintro e w5 ⟨A5, c5, rfl, ho5, hb5⟩
  have HO := Lib.hid ho5
  have HB5 := Lib.hid (HBy.out.trans (hb5.mono (by rw [← hTT]; exact HBy.out.size)))
  have hTy' : T ≤ w4.heap.size := by rw [← hTT]; exact HBy.out.size
  clear ho5 hb5 HC HBy
  go_wp2_with fail
  refine (kind_nil w5).mono ?_
  rintro e w6 ⟨rfl, rfl⟩
  go_wp2
  go_ret2
  exact ⟨A5, c5, rfl, own_lower HO.out (by omega), by rw [hTT]; exact HB5.out⟩
end Go.Proofs.YtkgihpebghmnbaaGreatDoor
