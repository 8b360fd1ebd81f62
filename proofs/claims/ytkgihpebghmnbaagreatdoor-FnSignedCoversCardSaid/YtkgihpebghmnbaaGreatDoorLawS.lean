/- FnSignedCovers: the law's own walk (printed by gen_laws.py). -/
import Derived.Test.YtkgihpebghmnbaaGreatDoorG39
import Derived.Test.YtkgihpebghmnbaaGreatDoorG40
import Derived.Test.YtkgihpebghmnbaaGreatDoorG41
namespace Go.Proofs.YtkgihpebghmnbaaGreatDoor
open Go.RowKit Go.Proofs

set_option maxRecDepth 100000

theorem which_nat (wh : Int) (no : Nat) (h0 : ¬ no = 0) (h1 : no ≤ 1000000) : ∃ j : Nat, j < no ∧ wrap64 ((IntKind.u64.wrap wh).tmod no) = (j : Int) := by
  have hw : 0 ≤ IntKind.u64.wrap wh := by
    simp only [IntKind.wrap]
    rw [if_neg (by simp [IntKind.signed])]
    exact Int.emod_nonneg _ (by simp [IntKind.bits])
  have h2 := Int.emod_nonneg (IntKind.u64.wrap wh) (show (no : Int) ≠ 0 by omega)
  have h3 := Int.emod_lt_of_pos (IntKind.u64.wrap wh) (show 0 < (no : Int) by omega)
  rw [Int.tmod_eq_emod_of_nonneg hw]
  generalize IntKind.u64.wrap wh % (no : Int) = r at *
  refine ⟨r.toNat, by omega, ?_⟩
  unfold wrap64
  omega
theorem info_row {P : Program} {t : TypeId} {size : Nat} (h : ((P.info? t).map fun i => i.size == size && decide (0 < i.bytes) && decide (i.bytes ≤ 1000000) && (match i.zero with | some z => z.cells.size == size | none => false)) = some true) :
    ∃ i z, P.info? t = some i ∧ i.zero = some z ∧ i.size = size ∧ z.cells.size = size ∧ 0 < i.bytes ∧ i.bytes ≤ 1000000 := by
  cases hi : P.info? t with
  | none => rw [hi] at h; simp at h
  | some i =>
    rw [hi] at h
    simp only [Option.map_some, Option.some.injEq, Bool.and_eq_true, beq_iff_eq, decide_eq_true_eq] at h
    obtain ⟨⟨⟨h1, h2⟩, h3⟩, h4⟩ := h
    cases hz : i.zero with
    | none => rw [hz] at h4; simp at h4
    | some z =>
      rw [hz] at h4
      exact ⟨i, z, rfl, hz, h1, by simpa using h4, h2, h3⟩
theorem idx_in0 (w : World) (b j no co : Nat) (h : j < no) : (Instr.indexAt 23 (.slice (some ⟨b, 0, none⟩) no co) (.int .i64 j)).run Tryz.prog w = .ok (.pointer (some ⟨b, j * 36, none⟩)) w := by
  have h1 : (j : Int) < (no : Int) := by omega
  have h2 : (0 : Int) ≤ (j : Int) := by omega
  go_simp
theorem markL_len (kc : Nat → Int) (h key : List UInt8) : (markL kc h key).length = 4 := rfl
theorem rd_lift {B : Nat} {w : World} {v : Value} {bs : List UInt8} (h : Rd 0 w v bs) : Rd B w v bs := by
  obtain ⟨A, c, e, h1, h2⟩ := h
  refine ⟨A, c, e, h1, fun hp => ?_⟩
  obtain ⟨b, o, ds, t, fr, e1, e2, e3, e4⟩ := h2 hp
  refine ⟨b, o, ds, t, fr, e1, e2, .inr ?_, e4⟩
  rcases e3 with e3 | e3
  · omega
  · exact e3
theorem row_iout : ∃ i z, Tryz.prog.info? 34 = some i ∧ i.zero = some z ∧ i.size = 2 ∧ z.cells.size = 2 ∧ 0 < i.bytes ∧ i.bytes ≤ 1000000 := info_row (by kernel_rfl)
theorem row_iin : ∃ i z, Tryz.prog.info? 43 = some i ∧ i.zero = some z ∧ i.size = 36 ∧ z.cells.size = 36 ∧ 0 < i.bytes ∧ i.bytes ≤ 1000000 := info_row (by kernel_rfl)

/-- The law's answer. -/
def LawT (w : World) (e : Ending) (w' : World) : Prop := e = .returned (.bool true) ∧ Below w.heap.size w w'

set_option maxHeartbeats 4000000 in
theorem law_covers (kc : Nat → Int) (Bs : Nat) (w : World) (Ai Ao : Option Addr) (ci co : Nat) (p : PT) (sh : List UInt8) (hsh : sh.length = 32) (hk : KT kc w) (hs : SrcTx Bs w Ai Ao p) (at_ wh val : Int) :
    Calls Tryz.prog 3 #[.agg (bv sh).toArray, .agg #[.int .i32 p.ver, .slice Ai p.ins.length ci, .slice Ao p.outs.length co, .int .u32 p.lock], .int .i64 at_, .int .i64 wh, .int .i64 val] w (LawT w) := by
  obtain ⟨i0, hi, hz0, hz1, hz2⟩ := info_parts info_u8
  obtain ⟨x0, x1, x2, x3, x4, x5, x6, x7, x8, x9, x10, x11, x12, x13, x14, x15, x16, x17, x18, x19, x20, x21, x22, x23, x24, x25, x26, x27, x28, x29, x30, x31, hx⟩ := list32 (L := bv sh) (by rw [bv_length, hsh])
  rw [hx]
  have hxo : (#[x0, x1, x2, x3, x4, x5, x6, x7, x8, x9, x10, x11, x12, x13, x14, x15, x16, x17, x18, x19, x20, x21, x22, x23, x24, x25, x26, x27, x28, x29, x30, x31] : Array Value).all (·.oneCell') = true := all_oneCell_toArray (by rw [← hx]; exact bv_ones _)
  have HX := Lib.hid hx
  clear hx
  generalize hni : p.ins.length = ni at *
  generalize hno : p.outs.length = no at *
  have hb1 : Below w.heap.size w (w.alloc (.cells #[x0, x1, x2, x3, x4, x5, x6, x7, x8, x9, x10, x11, x12, x13, x14, x15, x16, x17, x18, x19, x20, x21, x22, x23, x24, x25, x26, x27, x28, x29, x30, x31] 22)) := (Below.refl _ _).alloc (Nat.le_refl _) _
  have hb2 : Below w.heap.size w ((w.alloc (.cells #[x0, x1, x2, x3, x4, x5, x6, x7, x8, x9, x10, x11, x12, x13, x14, x15, x16, x17, x18, x19, x20, x21, x22, x23, x24, x25, x26, x27, x28, x29, x30, x31] 22)).alloc (.cells #[.int .i32 p.ver, .slice Ai ni ci, .slice Ao no co, .int .u32 p.lock] 27)) := hb1.alloc hb1.size _
  have h5 := (Blk.new w 22 #[x0, x1, x2, x3, x4, x5, x6, x7, x8, x9, x10, x11, x12, x13, x14, x15, x16, x17, x18, x19, x20, x21, x22, x23, x24, x25, x26, x27, x28, x29, x30, x31]).alloc (.cells #[.int .i32 p.ver, .slice Ai ni ci, .slice Ao no co, .int .u32 p.lock] 27)
  have h6 := Blk.new (w.alloc (.cells #[x0, x1, x2, x3, x4, x5, x6, x7, x8, x9, x10, x11, x12, x13, x14, x15, x16, x17, x18, x19, x20, x21, x22, x23, x24, x25, x26, x27, x28, x29, x30, x31] 22)) 27 #[.int .i32 p.ver, .slice Ai ni ci, .slice Ao no co, .int .u32 p.lock]
  rw [size_alloc1] at h6
  have HB := Lib.hid hb2
  have H5 := Lib.hid h5
  have H6 := Lib.hid h6
  have HS := Lib.hid (hs.below hb2)
  have HK := Lib.hid (hk.below hb2)
  have HFIT : Hid (∀ W, SrcTx Bs W Ai Ao p → Calls Tryz.prog 4 #[.agg #[.int .i32 p.ver, .slice Ai ni ci, .slice Ao no co, .int .u32 p.lock]] W (Tells W)) := fun W h => by
    have := fits2_any W Bs Ai Ao ci co p h
    rw [hni, hno] at this
    exact this
  have HSIZE : Hid (∀ W, SrcTx Bs W Ai Ao p → Calls Tryz.prog 6 #[.agg #[.int .i32 p.ver, .slice Ai ni ci, .slice Ao no co, .int .u32 p.lock]] W fun e w' => ∃ k : Nat, e = .returned (.int .i64 k) ∧ (k ≤ 100000 → p.Small) ∧ Below W.heap.size W w') := fun W h => by
    have := txSize_any Bs W Ai Ao ci co p h
    rw [hni, hno] at this
    exact this
  clear hb1 hb2 h5 h6 hs hk
  go_enter Tryz.func3, Tryz.ntmps3
  go_wp2_with fail
  generalize hT6 : w.heap.size + 1 = T6 at *
  generalize (w.alloc (.cells #[x0, x1, x2, x3, x4, x5, x6, x7, x8, x9, x10, x11, x12, x13, x14, x15, x16, x17, x18, x19, x20, x21, x22, x23, x24, x25, x26, x27, x28, x29, x30, x31] 22)).alloc (.cells #[.int .i32 p.ver, .slice Ai ni ci, .slice Ao no co, .int .u32 p.lock] 27) = W at *
  clear hT6
  refine (HFIT.out _ HS.out).mono ?_
  rintro e w1 ⟨⟨b, rfl⟩, hb1⟩
  have H5 := Lib.hid (H5.out.below hb1 H5.out.lt)
  have H6 := Lib.hid (H6.out.below hb1 H6.out.lt)
  have HS := Lib.hid (HS.out.below hb1)
  have HK := Lib.hid (HK.out.below hb1)
  have HB := Lib.hid (Below.trans' HB.out HB.out.size (Below.lower hb1 HB.out.size))
  clear hb1
  cases b
  case false =>
    go_wp2
    go_ret
    exact ⟨rfl, HB.out⟩
  go_wp2_with fail
  refine (awake_any _).mono ?_
  rintro e w2 ⟨rfl, hb2⟩
  have H5 := Lib.hid (H5.out.below hb2 H5.out.lt)
  have H6 := Lib.hid (H6.out.below hb2 H6.out.lt)
  have HS := Lib.hid (HS.out.below hb2)
  have HK := Lib.hid (HK.out.below hb2)
  have HB := Lib.hid (Below.trans' HB.out HB.out.size (Below.lower hb2 HB.out.size))
  clear hb2
  have hc5 : Cells w2 (some ⟨w.heap.size, 0, none⟩) 32 (bv sh) := ⟨by rw [bv_length, hsh], fun _ => ⟨w.heap.size, 0, rfl, fun j u hu => by
    rw [HX.out] at hu
    rw [Nat.zero_add, H5.out.cell]
    simpa using hu⟩⟩
  have ho := own_one w2 w2.heap.size 5 (.int .u8 2) (Nat.le_refl _)
  have hal : Below w2.heap.size w2 (w2.alloc (.cells #[.int .u8 2] 5)) := (Below.refl _ _).alloc (Nat.le_refl _) _
  have HO := Lib.hid ho
  have HC := Lib.hid (hc5.below hal)
  have HAL := Lib.hid hal
  clear ho hc5 hal
  go_wp2_with (at_builtin; refine Stop.mk ?_)
  refine Stop.go ?_
  refine wpList_append_cells _ rfl (.tmp 28) (.tmp 29) 30 rfl w2.heap.size 5 i0 _ 1 Tryz.underlying30 hi hz0 hz1 hz2 rfl _ 1 [.int .u8 2] rfl HO.out (some ⟨w.heap.size, 0, none⟩) 32 32 (bv sh) rfl HC.out (bv_ones _) (by omega) (by omega) (by simp) ?_
  intro v' w3 hown hgrow hata
  obtain ⟨Ak, ck, rfl⟩ := own_form hown
  have hb3 : Below w2.heap.size w2 w3 := HAL.out.grown hgrow HAL.out.size (fun k hk => (HO.out.lt k hk).1)
  have HKEY : Hid (Rd 0 w3 (.slice Ak 33 ck) (2 :: sh)) := by
    have h : w3.ownsRow w2.heap.size 5 1 (.slice Ak 33 ck) (2 :: sh).length (bv (2 :: sh)) := by
      rw [List.length_cons, hsh]
      exact hown
    have := Rd.of_own (B := 0) h (by decide)
    exact this
  have H5 := Lib.hid (H5.out.below hb3 H5.out.lt)
  have H6 := Lib.hid (H6.out.below hb3 H6.out.lt)
  have HS := Lib.hid (HS.out.below hb3)
  have HK := Lib.hid (HK.out.below hb3)
  have HB := Lib.hid (Below.trans' HB.out HB.out.size (Below.lower hb3 HB.out.size))
  clear hown hgrow hata hb3 HO HC HAL
  have t0 := H6.out.cell 0
  change _ = some (Value.int .i32 p.ver) at t0
  have t1 := H6.out.cell 1
  change _ = some (Value.slice Ai ni ci) at t1
  have t2 := H6.out.cell 2
  change _ = some (Value.slice Ao no co) at t2
  have t3 := H6.out.cell 3
  change _ = some (Value.int .u32 p.lock) at t3
  go_wp2_with fail
  refine (HSIZE.out _ HS.out).mono ?_
  rintro e w4 ⟨k, rfl, hsm, hb4⟩
  clear t0 t1 t2 t3
  have HKEY := Lib.hid (HKEY.out.below hb4)
  have H6 := Lib.hid (H6.out.below hb4 H6.out.lt)
  have HS := Lib.hid (HS.out.below hb4)
  have HK := Lib.hid (HK.out.below hb4)
  have HB := Lib.hid (Below.trans' HB.out HB.out.size (Below.lower hb4 HB.out.size))
  have HSM := Lib.hid hsm
  clear hb4 hsm H5
  have t0 := H6.out.cell 0
  change _ = some (Value.int .i32 p.ver) at t0
  have t1 := H6.out.cell 1
  change _ = some (Value.slice Ai ni ci) at t1
  have t2 := H6.out.cell 2
  change _ = some (Value.slice Ao no co) at t2
  have t3 := H6.out.cell 3
  change _ = some (Value.int .u32 p.lock) at t3
  rcases (show ¬ k ≤ 100000 ∨ (k ≤ 100000 ∧ at_ < 0) ∨ (k ≤ 100000 ∧ ¬ at_ < 0 ∧ (ni : Int) ≤ at_) ∨ (k ≤ 100000 ∧ ¬ at_ < 0 ∧ ¬ (ni : Int) ≤ at_ ∧ no = 0) ∨ (k ≤ 100000 ∧ ¬ at_ < 0 ∧ ¬ (ni : Int) ≤ at_ ∧ ¬ no = 0) by omega) with h | ⟨h, ha⟩ | ⟨h, ha, hc⟩ | ⟨h, ha, hc, hd⟩ | ⟨h, ha, hc, hd⟩
  · have g1 : (100000 : Int) < (k : Int) := by omega
    go_wp2
    go_ret
    exact ⟨rfl, HB.out⟩
  · have g1 : ¬ (100000 : Int) < (k : Int) := by omega
    go_wp2
    go_ret
    exact ⟨rfl, HB.out⟩
  · have g1 : ¬ (100000 : Int) < (k : Int) := by omega
    go_wp2
    go_ret
    exact ⟨rfl, HB.out⟩
  · have g1 : ¬ (100000 : Int) < (k : Int) := by omega
    subst hd
    go_wp2
    go_ret
    exact ⟨rfl, HB.out⟩
  have g1 : ¬ (100000 : Int) < (k : Int) := by omega
  have hsm : Hid p.Small := HSM.out h
  have g4 : ¬ ((no : Int) = 0) := by omega
  have g5 : ((no : Int) == 0) = false := by simp; omega
  have g6 : (no : Int) ≤ 1000000 := by have := hsm.out.no; omega
  go_upto_region 9 with fail
  obtain ⟨j, hj, hje⟩ := which_nat wh no hd (by have := hsm.out.no; omega)
  rw [hje]
  clear hje
  obtain ⟨bo, oo, rfl, hout⟩ := HS.out.outs (by rw [hno]; omega)
  obtain ⟨q, hq⟩ : ∃ q, p.outs[j]? = some q := ⟨p.outs[j]'(by omega), List.getElem?_eq_getElem _⟩
  obtain ⟨Aq, cq, hq0, -, -⟩ := hout j q hq
  have hj1 : (j : Int) < (no : Int) := by omega
  have hj2 : (0 : Int) ≤ (j : Int) := by omega
  have HQ := Lib.hid hq
  clear hout hq
  by_cases hv : q.val = val
  case pos =>
    subst hv
    go_wp2
    go_ret
    exact ⟨rfl, HB.out⟩
  have hv' : (q.val == val) = false := by simpa using hv
  go_upto_region 11 with fail
  clear hq0 t1 t2
  -- the script
  have hkl : (2 :: sh).length = 33 := by simp [hsh]
  have ho := own_one w4 w4.heap.size 5 (.int .u8 33) (Nat.le_refl _)
  have hal : Below w4.heap.size w4 (w4.alloc (.cells #[.int .u8 33] 5)) := (Below.refl _ _).alloc (Nat.le_refl _) _
  have HO := Lib.hid ho
  have HC := Lib.hid ((Cells.of_rd HKEY.out).below hal)
  have HAL := Lib.hid hal
  clear ho hal
  go_wp2_with (at_builtin; refine Stop.mk ?_)
  refine Stop.go ?_
  refine wpList_append_cells _ rfl (.tmp 67) (.tmp 68) 30 rfl w4.heap.size 5 i0 _ 1 Tryz.underlying30 hi hz0 hz1 hz2 rfl _ 1 [.int .u8 33] rfl HO.out Ak 33 ck (bv (2 :: sh)) rfl HC.out (bv_ones _) (by omega) (by omega) (by simp) ?_
  intro v' w5 hown hgrow hata
  obtain ⟨A5, c5, rfl⟩ := own_form hown
  have hb5 : Below w4.heap.size w4 w5 := HAL.out.grown hgrow HAL.out.size (fun k hk => (HO.out.lt k hk).1)
  have hal : Below w5.heap.size w5 (w5.alloc (.cells #[.int .u8 172] 5)) := (Below.refl _ _).alloc (Nat.le_refl _) _
  have hown : w5.ownsRow w4.heap.size 5 1 (.slice A5 34 c5) 34 ([.int .u8 33] ++ bv (2 :: sh)) := hown
  have HO := Lib.hid (own_below hown hal)
  have HB5 := Lib.hid hb5
  have HAL := Lib.hid hal
  clear hown hgrow hata hb5 hal HC
  go_wp2_with (at_builtin; refine Stop.mk ?_)
  refine Stop.go ?_
  refine wpList_append_cells _ rfl (.tmp 69) (.tmp 70) 30 rfl w4.heap.size 5 i0 _ 1 Tryz.underlying30 hi hz0 hz1 hz2 rfl (.slice A5 34 c5) 34 ([.int .u8 33] ++ bv (2 :: sh)) rfl HO.out (some ⟨w5.heap.size, 0, none⟩) 1 1 [.int .u8 172] rfl (Cells.one w5 _ _) (by intro u hu; simp at hu; subst hu; rfl) (by omega) (by omega) (by have := HB5.out.size; simp; omega) ?_
  intro v' w6 hown hgrow hata
  obtain ⟨As, cs, rfl⟩ := own_form hown
  have hb6 : Below w4.heap.size w4 w6 := (HB5.out.alloc HB5.out.size _).grown hgrow (by have := HB5.out.size; simp; omega) (fun k hk => (HO.out.lt k hk).1)
  have HSCR : Hid (Rd 0 w6 (.slice As 35 cs) (code (payT (2 :: sh)))) := by
    have e : bv (code (payT (2 :: sh))) = [.int .u8 33] ++ bv (2 :: sh) ++ [.int .u8 172] := by
      rw [payT_code hkl]
      simp [bv]
    have h : w6.ownsRow w4.heap.size 5 1 (.slice As 35 cs) (code (payT (2 :: sh))).length (bv (code (payT (2 :: sh)))) := by
      rw [payT_length hkl, e]
      exact hown
    have := Rd.of_own (B := 0) h (by decide)
    exact this
  have HKEY := Lib.hid (HKEY.out.below hb6)
  have H6 := Lib.hid (H6.out.below hb6 H6.out.lt)
  have HS := Lib.hid (HS.out.below hb6)
  have HK := Lib.hid (HK.out.below hb6)
  have HB := Lib.hid (Below.trans' HB.out HB.out.size (Below.lower hb6 HB.out.size))
  clear hown hgrow hata hb6 HO HB5 HAL
  go_upto_region 12 with fail
  have t0 := H6.out.cell 0
  change _ = some (Value.int .i32 p.ver) at t0
  have t1 := H6.out.cell 1
  change _ = some (Value.slice Ai ni ci) at t1
  have t2 := H6.out.cell 2
  change _ = some (Value.slice (some ⟨bo, oo, none⟩) no co) at t2
  have t3 := H6.out.cell 3
  change _ = some (Value.int .u32 p.lock) at t3
  go_upto_region 13 with fail
  clear t0 t1 t2 t3
  -- u's own row of outputs
  have hro : OutsRow Bs w6 bo oo p.outs := by
    obtain ⟨b', o', e, hrow⟩ := HS.out.outs (by rw [hno]; omega)
    injection e with e
    injection e with e1 e2
    subst e1; subst e2
    exact hrow
  have HRO := Lib.hid hro
  have hal : Below w6.heap.size w6 (w6.alloc (.cells #[.int .i32 p.ver, .slice Ai ni ci, .slice (some ⟨bo, oo, none⟩) no co, .int .u32 p.lock] 27)) := (Below.refl _ _).alloc (Nat.le_refl _) _
  have hro7 : OutsRow Bs (w6.alloc (.cells #[.int .i32 p.ver, .slice Ai ni ci, .slice (some ⟨bo, oo, none⟩) no co, .int .u32 p.lock] 27)) bo oo p.outs := fun j pj h => (hro j pj h).below hal
  have hu7 := Blk.new w6 27 #[.int .i32 p.ver, .slice Ai ni ci, .slice (some ⟨bo, oo, none⟩) no co, .int .u32 p.lock]
  have h67 := H6.out.below hal H6.out.lt
  have h67l := h67.lt
  have hsz7 : (w6.alloc (.cells #[.int .i32 p.ver, .slice Ai ni ci, .slice (some ⟨bo, oo, none⟩) no co, .int .u32 p.lock] 27)).heap.size = w6.heap.size + 1 := by simp
  have t2 := h67.cell 2
  change _ = some (Value.slice (some ⟨bo, oo, none⟩) no co) at t2
  generalize hTu : w6.heap.size = Tu at *
  generalize w6.alloc (.cells #[.int .i32 p.ver, .slice Ai ni ci, .slice (some ⟨bo, oo, none⟩) no co, .int .u32 p.lock] 27) = w7 at *
  have HAL := Lib.hid hal
  have HR7 := Lib.hid hro7
  have HU7 := Lib.hid hu7
  have HZ7 := Lib.hid hsz7
  clear hal hro hro7 hu7 hsz7 h67
  obtain ⟨io, zo, hio, hzo, hso, hco, hpo, hlo⟩ := row_iout
  go_wp2_with (at_builtin; refine Stop.mk ?_)
  refine Stop.go ?_
  refine wpList_copy (w := w7) rfl (.tmp 73) (.tmp 75) 24 rfl 34 io zo 2 io.bytes Tryz.underlying24 hio hzo hso rfl hco (by omega) bo oo no co rfl rfl (by omega) (fun i hi => HR7.out.one i (by rw [hno]; exact hi)) (by omega) hpo hlo ?_
  intro g2 c2 w9 hrc hc2
  have hU9 := HU7.out.below hrc.bel HU7.out.lt
  obtain ⟨cg, hg9⟩ := hrc.blk
  have hgT : g2 ≠ Tu := by have := hrc.ge; have := HZ7.out; omega
  have u2 := hU9.cell 2
  change _ = some (Value.slice (some ⟨bo, oo, none⟩) no co) at u2
  have ufz := hU9.frozen 2
  have ubl := hU9.lt
  have HU9 := Lib.hid hU9
  have HG9 := Lib.hid hg9
  have HRC := Lib.hid hrc
  clear hU9 hg9 hrc t2 h67l hio hzo hso hco hpo hlo
  go_upto_region 14 with fail
  have hU10 := HU9.out.set_ 2 (.slice (some ⟨g2, 0, none⟩) no c2)
  have hg10 := HG9.out.far (p := ⟨Tu, 2, none⟩) hgT (.slice (some ⟨g2, 0, none⟩) no c2)
  have u2' := hU10.cell 2
  change _ = some (Value.slice (some ⟨g2, 0, none⟩) no c2) at u2'
  have x0 : (w9.setCell ⟨Tu, 2, none⟩ (.slice (some ⟨g2, 0, none⟩) no c2)).cell? ⟨g2, j * 2, none⟩ = some (.int .i64 q.val) := by
    rw [World.cell?_setCell_far _ ⟨Tu, 2, none⟩ ⟨g2, j * 2, none⟩ _ (Ne.symm hgT), HRC.out.cells (j * 2) (by omega)]
    obtain ⟨_, _, h, _, _⟩ := HR7.out j q HQ.out
    exact h
  have gfz := hg10.frozen (j * 2)
  have gbl := hg10.lt
  have HU10 := Lib.hid hU10
  have HG10 := Lib.hid hg10
  clear hU10 hg10 u2 ufz ubl HU9 HG9
  generalize hw10 : w9.setCell ⟨Tu, 2, none⟩ (.slice (some ⟨g2, 0, none⟩) no c2) = w10 at *
  go_upto_region 15 with fail
  have hU11 := HU10.out.far (p := ⟨g2, j * 2, none⟩) (Ne.symm hgT) (.int .i64 val)
  have hTu7 : Tu ≤ w7.heap.size := by have := HZ7.out; omega
  have hg7 : w7.heap.size ≤ g2 := HRC.out.ge
  have hb9 : Below Tu w6 w9 := Below.trans' HAL.out hTu7 (Below.lower HRC.out.bel hTu7)
  have hb10 : Below Tu w6 w10 := by rw [← hw10]; exact hb9.setCell (p := ⟨Tu, 2, none⟩) (Nat.le_refl _) _
  have hb11 : Below Tu w6 (w10.setCell ⟨g2, j * 2, none⟩ (.int .i64 val)) := hb10.setCell (p := ⟨g2, j * 2, none⟩) (by show Tu ≤ g2; omega) _
  have hcu : ∀ i, i < no * 2 → i ≠ j * 2 → (w10.setCell ⟨g2, j * 2, none⟩ (.int .i64 val)).cell? ⟨g2, i, none⟩ = w6.cell? ⟨bo, oo + i, none⟩ := fun i hi hne => by
    rw [World.cell?_setCell_other _ _ _ _ (by intro e; injection e with e1 e2; omega), ← hw10, World.cell?_setCell_far _ ⟨Tu, 2, none⟩ ⟨g2, i, none⟩ _ (Ne.symm hgT), HRC.out.cells i hi]
    obtain ⟨u, hu, -⟩ := HRO.out.one i (by rw [hno]; exact hi)
    rw [hu]
    have hlt : bo < w6.heap.size := World.block_lt_of_cell? w6 _ hu
    exact (World.cell?_of_block (w := w6) (a := ⟨bo, oo + i, none⟩) (HAL.out.block bo (by omega))).trans hu
  have h0 : (w10.setCell ⟨g2, j * 2, none⟩ (.int .i64 val)).cell? ⟨g2, j * 2, none⟩ = some (.int .i64 val) := World.cell?_setCell_same _ _ _ x0
  generalize w10.setCell ⟨g2, j * 2, none⟩ (.int .i64 val) = W0 at *
  have hbW : Below w6.heap.size w6 W0 := by rw [hTu]; exact hb11
  have hou := HRO.out.turned hbW (by rw [hno]; exact hcu) h0 HQ.out
  have hsu : SrcTx Bs W0 Ai (some ⟨g2, 0, none⟩) (p.out1 j q val) := ⟨(HS.out.below hbW).ins, fun _ => ⟨g2, 0, rfl, hou⟩⟩
  have HSU := Lib.hid hsu
  have HKEY := Lib.hid (HKEY.out.below hbW)
  have HSCR := Lib.hid (HSCR.out.below hbW)
  have H6 := Lib.hid (H6.out.below hbW H6.out.lt)
  have HS := Lib.hid (HS.out.below hbW)
  have HK := Lib.hid (HK.out.below hbW)
  have HB := Lib.hid (Below.trans' HB.out HB.out.size (Below.lower hbW HB.out.size))
  have HU : Hid (Blk W0 Tu 27 #[.int .i32 p.ver, .slice Ai ni ci, .slice (some ⟨g2, 0, none⟩) no c2, .int .u32 p.lock]) := hU11
  clear hU11 hTu7 hg7 hb9 hb10 hb11 hcu h0 hbW hou hsu x0 gfz gbl u2' HU10 HG10 HRC HR7 HU7 HZ7 HAL HRO hw10
  -- at_ is a place among the inputs
  obtain ⟨idx, rfl⟩ : ∃ idx : Nat, at_ = (idx : Int) := ⟨at_.toNat, by omega⟩
  have hidx : idx < ni := by omega
  obtain ⟨bi, oi, rfl, hin⟩ := HS.out.ins (by rw [hni]; omega)
  obtain ⟨qi, hqi⟩ : ∃ qi, p.ins[idx]? = some qi := ⟨p.ins[idx]'(by omega), List.getElem?_eq_getElem _⟩
  have HIN : Hid (InsRow Bs W0 bi oi p.ins) := hin
  have HQI := Lib.hid hqi
  clear hin hqi
  have HSGT : Hid (∀ W b, SrcTx Bs W (some ⟨bi, oi, none⟩) (some ⟨bo, oo, none⟩) p → KT kc W → Rd 0 W (.slice As 35 cs) (code (payT (2 :: sh))) → (b = 1 ∨ b = 2 ∨ b = 3) → Calls Tryz.prog 7 #[.slice As 35 cs, .int .u32 (b : Nat), .agg #[.int .i32 p.ver, .slice (some ⟨bi, oi, none⟩) ni ci, .slice (some ⟨bo, oo, none⟩) no co, .int .u32 p.lock], .int .i64 idx] W fun e w' =>
      ∃ A' c', e = .returned (.tuple #[.slice A' 32 c', .int .i64 0]) ∧ w'.ownsRow W.heap.size 5 1 (.slice A' 32 c') 32 (bv (sigHash kc (code (payT (2 :: sh))) (b : Nat) b false idx p.tx)) ∧ Below W.heap.size W w') := fun W b h1 h2 h3 h4 => by
    have := sigHash_any kc Bs W 35 cs idx ci co As (some ⟨bi, oi, none⟩) (some ⟨bo, oo, none⟩) (payT (2 :: sh)) p (b : Nat) b false h2 h1 hsm.out (rd_lift h3) (payT_tok hkl) (payT_sep hkl) (by omega) (by omega) (by rw [hni]; exact hidx) (by rcases h4 with rfl | rfl | rfl <;> decide) h4 (by rcases h4 with rfl | rfl | rfl <;> decide)
    rw [hni, hno] at this
    exact this
  have hsmu : (p.out1 j q val).Small := ⟨hsm.out.ni, by have := hsm.out.no; simpa [PT.out1] using this, hsm.out.ins, fun x hx => by
    rcases List.mem_or_eq_of_mem_set hx with hx | rfl
    · exact hsm.out.outs x hx
    · exact hsm.out.outs q (List.mem_of_getElem? HQ.out)⟩
  have HSGU : Hid (∀ W b, SrcTx Bs W (some ⟨bi, oi, none⟩) (some ⟨g2, 0, none⟩) (p.out1 j q val) → KT kc W → Rd 0 W (.slice As 35 cs) (code (payT (2 :: sh))) → (b = 1 ∨ b = 2 ∨ b = 3) → Calls Tryz.prog 7 #[.slice As 35 cs, .int .u32 (b : Nat), .agg #[.int .i32 p.ver, .slice (some ⟨bi, oi, none⟩) ni ci, .slice (some ⟨g2, 0, none⟩) no c2, .int .u32 p.lock], .int .i64 idx] W fun e w' =>
      ∃ A' c', e = .returned (.tuple #[.slice A' 32 c', .int .i64 0]) ∧ w'.ownsRow W.heap.size 5 1 (.slice A' 32 c') 32 (bv (sigHash kc (code (payT (2 :: sh))) (b : Nat) b false idx (p.out1 j q val).tx)) ∧ Below W.heap.size W w') := fun W b h1 h2 h3 h4 => by
    have := sigHash_any kc Bs W 35 cs idx ci c2 As (some ⟨bi, oi, none⟩) (some ⟨g2, 0, none⟩) (payT (2 :: sh)) (p.out1 j q val) (b : Nat) b false h2 h1 hsmu (rd_lift h3) (payT_tok hkl) (payT_sep hkl) (by omega) (by omega) (by show idx < p.ins.length; rw [hni]; exact hidx) (by rcases h4 with rfl | rfl | rfl <;> decide) h4 (by rcases h4 with rfl | rfl | rfl <;> decide)
    have e1 : (p.out1 j q val).ins.length = ni := hni
    have e2 : (p.out1 j q val).outs.length = no := by simp [PT.out1, hno]
    rw [e1, e2] at this
    exact this
  clear ha hc g1 g4 g5
  go_upto_region 16 with fail
  generalize decide ((ni : Int) ≤ (idx : Int)) = q1
  generalize decide ((idx : Int) < 0) = q2
  generalize decide ((100000 : Int) < (k : Int)) = q3
  go_loopg [14] 4 (fun k s wx => ∃ b : Nat, k = 4 - b + 1 ∧ 1 ≤ b ∧ b ≤ 4 ∧ s = .int .u8 b ∧ Below W0.heap.size W0 wx)
  case atStart => exact ⟨1, rfl, by omega, by omega, rfl, Below.refl _ _⟩
  case round =>
    obtain ⟨b, hkb, hb1, hb4, rfl, hbx⟩ := hrel
    have HKB := Lib.hid hkb
    have HBX := Lib.hid hbx
    clear hkb hbx
    have hb0 : (0 : Int) ≤ (b : Int) := by omega
    have hb44 : (b : Int) ≤ 4 := by omega
    have HBB := Lib.hid (Below.trans' HB.out HB.out.size (Below.lower HBX.out HB.out.size))
    by_cases h4 : b = 4
    · subst h4
      go_wp2
      go_ret
      exact ⟨rfl, HBB.out⟩
    have h3 : (b : Int) ≤ 3 := by omega
    have hb : b = 1 ∨ b = 2 ∨ b = 3 := by omega
    have H6 := Lib.hid (H6.out.below HBX.out H6.out.lt)
    have HU := Lib.hid (HU.out.below HBX.out HU.out.lt)
    have t0 := H6.out.cell 0
    change _ = some (Value.int .i32 p.ver) at t0
    have t1 := H6.out.cell 1
    change _ = some (Value.slice (some ⟨bi, oi, none⟩) ni ci) at t1
    have t2 := H6.out.cell 2
    change _ = some (Value.slice (some ⟨bo, oo, none⟩) no co) at t2
    have t3 := H6.out.cell 3
    change _ = some (Value.int .u32 p.lock) at t3
    go_wp2_with fail
    refine (HSGT.out wr b (HS.out.below HBX.out) (HK.out.below HBX.out) (HSCR.out.below HBX.out) hb).mono ?_
    rintro e w7 ⟨Ah, ch, rfl, hoh, hb7⟩
    have HY := Lib.hid (Below.trans' HBX.out HBX.out.size (Below.lower hb7 HBX.out.size))
    have HH := Lib.hid (Cells.of_own hoh)
    have HU := Lib.hid (HU.out.below hb7 HU.out.lt)
    clear t0 t1 t2 t3 hoh hb7
    have t0 := HU.out.cell 0
    change _ = some (Value.int .i32 p.ver) at t0
    have t1 := HU.out.cell 1
    change _ = some (Value.slice (some ⟨bi, oi, none⟩) ni ci) at t1
    have t2 := HU.out.cell 2
    change _ = some (Value.slice (some ⟨g2, 0, none⟩) no c2) at t2
    have t3 := HU.out.cell 3
    change _ = some (Value.int .u32 p.lock) at t3
    go_wp2_with fail
    refine (HSGU.out w7 b (HSU.out.below HY.out) (HK.out.below HY.out) (HSCR.out.below HY.out) hb).mono ?_
    rintro e w8 ⟨Ag, cg8, rfl, hog, hb8⟩
    have HZ := Lib.hid (Below.trans' HY.out HY.out.size (Below.lower hb8 HY.out.size))
    have HH := Lib.hid (HH.out.below hb8)
    have HG := Lib.hid (Cells.of_own hog)
    have HU := Lib.hid (HU.out.below hb8 HU.out.lt)
    clear t0 t1 t2 t3 hog hb8
    have t0 := HU.out.cell 0
    change _ = some (Value.int .i32 p.ver) at t0
    have t1 := HU.out.cell 1
    change _ = some (Value.slice (some ⟨bi, oi, none⟩) ni ci) at t1
    have t2 := HU.out.cell 2
    change _ = some (Value.slice (some ⟨g2, 0, none⟩) no c2) at t2
    have t3 := HU.out.cell 3
    change _ = some (Value.int .u32 p.lock) at t3
    go_upto_region 23 with fail
    clear t0 t1 t2 t3
    -- x's own row of inputs
    have hal : Below w8.heap.size w8 (w8.alloc (.cells #[.int .i32 p.ver, .slice (some ⟨bi, oi, none⟩) ni ci, .slice (some ⟨g2, 0, none⟩) no c2, .int .u32 p.lock] 27)) := (Below.refl _ _).alloc (Nat.le_refl _) _
    have hx9 := Blk.new w8 27 #[.int .i32 p.ver, .slice (some ⟨bi, oi, none⟩) ni ci, .slice (some ⟨g2, 0, none⟩) no c2, .int .u32 p.lock]
    have hu9 := HU.out.below hal HU.out.lt
    have hul := hu9.lt
    have t1 := hu9.cell 1
    change _ = some (Value.slice (some ⟨bi, oi, none⟩) ni ci) at t1
    have hz9 : (w8.alloc (.cells #[.int .i32 p.ver, .slice (some ⟨bi, oi, none⟩) ni ci, .slice (some ⟨g2, 0, none⟩) no c2, .int .u32 p.lock] 27)).heap.size = w8.heap.size + 1 := by simp
    generalize hTx : w8.heap.size = Tx at *
    generalize w8.alloc (.cells #[.int .i32 p.ver, .slice (some ⟨bi, oi, none⟩) ni ci, .slice (some ⟨g2, 0, none⟩) no c2, .int .u32 p.lock] 27) = w9 at *
    have HAL := Lib.hid hal
    have HX9 := Lib.hid hx9
    have HZ9 := Lib.hid hz9
    have hw9 : Below W0.heap.size W0 w9 := Below.trans' HZ.out HZ.out.size (Below.lower (by rw [hTx]; exact hal) HZ.out.size)
    have hir : InsRow Bs w9 bi oi p.ins := fun j pj h => (HIN.out j pj h).below hw9
    have HIR := Lib.hid hir
    have HW9 := Lib.hid hw9
    clear hal hx9 hz9 hu9 hw9 hir
    obtain ⟨io, zo, hio, hzo, hso, hco, hpo, hlo⟩ := row_iin
    have hnl := hsm.out.ni
    go_wp2_with (at_builtin; refine Stop.mk ?_)
    refine Stop.go ?_
    refine wpList_copy (w := w9) rfl (.tmp 113) (.tmp 115) 23 rfl 43 io zo 36 io.bytes Tryz.underlying23 hio hzo hso rfl hco (by omega) bi oi ni ci rfl rfl (by omega) (fun i hi => HIR.out.one i (by rw [hni]; exact hi)) (by omega) hpo hlo ?_
    intro g3 c3 w10 hrc hc3
    have hX10 := HX9.out.below hrc.bel HX9.out.lt
    obtain ⟨cg3, hg10⟩ := hrc.blk
    have hgX : g3 ≠ Tx := by have := hrc.ge; have := HZ9.out; omega
    have u1 := hX10.cell 1
    change _ = some (Value.slice (some ⟨bi, oi, none⟩) ni ci) at u1
    have ufz := hX10.frozen 1
    have ubl := hX10.lt
    have HX10 := Lib.hid hX10
    have HG10 := Lib.hid hg10
    have HRC := Lib.hid hrc
    clear hX10 hg10 hrc t1 hul hio hzo hso hco hpo hlo
    go_upto_region 24 with fail
    have hX11 := HX10.out.set_ 1 (.slice (some ⟨g3, 0, none⟩) ni c3)
    have hg11 := HG10.out.far (p := ⟨Tx, 1, none⟩) hgX (.slice (some ⟨g3, 0, none⟩) ni c3)
    have hTx9 : Tx ≤ w9.heap.size := by have := HZ9.out; omega
    have hg9 : w9.heap.size ≤ g3 := HRC.out.ge
    have hb10 : Below Tx w9 w10 := Below.lower HRC.out.bel hTx9
    have hb11 : Below Tx w9 (w10.setCell ⟨Tx, 1, none⟩ (.slice (some ⟨g3, 0, none⟩) ni c3)) := hb10.setCell (p := ⟨Tx, 1, none⟩) (Nat.le_refl _) _
    have hb811 : Below Tx w8 (w10.setCell ⟨Tx, 1, none⟩ (.slice (some ⟨g3, 0, none⟩) ni c3)) := Below.trans' HAL.out hTx9 hb11
    have hcu : ∀ i, i < ni * 36 → (w10.setCell ⟨Tx, 1, none⟩ (.slice (some ⟨g3, 0, none⟩) ni c3)).cell? ⟨g3, i, none⟩ = w9.cell? ⟨bi, oi + i, none⟩ := fun i hi => by
      rw [World.cell?_setCell_far _ ⟨Tx, 1, none⟩ ⟨g3, i, none⟩ _ (Ne.symm hgX), HRC.out.cells i hi]
    generalize w10.setCell ⟨Tx, 1, none⟩ (.slice (some ⟨g3, 0, none⟩) ni c3) = w11 at *
    have hb811' : Below w8.heap.size w8 w11 := by rw [hTx]; exact hb811
    have HX11 := Lib.hid hX11
    have HG11 := Lib.hid hg11
    have HCU := Lib.hid hcu
    have HB11 := Lib.hid hb11
    have HW11 := Lib.hid (Below.trans' HZ.out HZ.out.size (Below.lower hb811' HZ.out.size))
    have HH8 := HH
    have HG8 := HG
    have HB811 := Lib.hid hb811'
    have HH := Lib.hid (HH.out.below hb811')
    have HG := Lib.hid (HG.out.below hb811')
    have HKC := Lib.hid (Cells.of_rd (HKEY.out.below HW11.out))
    have HK11 := Lib.hid (HK.out.below HW11.out)
    obtain ⟨k8, hk8⟩ : ∃ k8 : UInt8, (k8.toNat : Int) = (b : Int) := by
      rcases hb with rfl | rfl | rfl
      · exact ⟨1, rfl⟩
      · exact ⟨2, rfl⟩
      · exact ⟨3, rfl⟩
    obtain ⟨sg, hsgd⟩ : ∃ sg, sigF ++ markL kc (sigHash kc (code (payT (2 :: sh))) (b : Nat) b false idx p.tx) (2 :: sh) ++ [k8] = sg := ⟨_, rfl⟩
    have hsgl : sg.length = 13 := by rw [← hsgd]; simp [sigF, markL_len]
    have HSGN : Hid (Calls Tryz.prog 9 #[.slice Ah 32 ch, .slice Ak 33 ck, .int .u8 (b : Int)] w11.drew fun e w' => ∃ A c, e = .returned (.slice A 13 c) ∧ w'.ownsRow w11.drew.heap.size 5 1 (.slice A 13 c) 13 (bv sg) ∧ Below w11.drew.heap.size w11.drew w') := by
      have := signature_any kc w11.drew Ah Ak 32 33 ch ck (sigHash kc (code (payT (2 :: sh))) (b : Nat) b false idx p.tx) (2 :: sh) k8 HK11.out HH.out HKC.out (by omega)
      rw [hk8, hsgd] at this
      exact this
    have HSGD := Lib.hid hsgd
    clear hsgd
    have xS : w11.cell? ⟨Tx, 1, none⟩ = some (.slice (some ⟨g3, 0, none⟩) ni c3) := HX11.out.cell 1
    have hTx11 : Tx < w11.heap.size := HX11.out.lt
    have hg11l : g3 < w11.heap.size := HG11.out.lt
    clear hX11 hg11 hb10 hb11 hb811 hb811' hcu u1 ufz ubl HX10 HG10 HRC
    refine wp_region_f_drew (S := (fun w' => w'.cell? ⟨Tx, 1, none⟩ = some (.slice (some ⟨g3, 0, none⟩) ni c3))) (F := [16]) (by kernel_rfl) (xS) (fun hHeld => ?_)
    clear hHeld
    have hHeld : w11.drew.cell? ⟨Tx, 1, none⟩ = some (.slice (some ⟨g3, 0, none⟩) ni c3) := xS
    refine f_take 0 118 (.pointer (some ⟨Tx, 1, none⟩)) rfl rfl (by kernel_rfl) (by kernel_rfl) (by kernel_rfl) (by kernel_rfl) (fun _ _ _ h => h) (Or.inl ⟨wanted_plain rfl _, fun w hSw => by kernel_rfl⟩) (by assumption) ?_
    simp only [List.set_cons_zero, List.set_cons_succ]
    refine f_take 1 119 (.slice (some ⟨g3, 0, none⟩) ni c3) rfl rfl (by kernel_rfl) (by kernel_rfl) (by kernel_rfl) (by kernel_rfl) (fun _ _ _ h => h) (Or.inl ⟨wanted_plain rfl _, fun w hSw => exec_load 23 (.tmp 118) rfl rfl (by go_simp)⟩) (by assumption) ?_
    simp only [List.set_cons_zero, List.set_cons_succ]
    refine f_take 2 120 (.int .i64 idx) rfl rfl (by kernel_rfl) (by kernel_rfl) (by kernel_rfl) (by kernel_rfl) (fun _ _ _ h => h) (Or.inl ⟨wanted_plain rfl _, fun w hSw => by kernel_rfl⟩) (by assumption) ?_
    simp only [List.set_cons_zero, List.set_cons_succ]
    refine f_take 3 121 (.pointer (some ⟨Tx, 1, none⟩)) rfl rfl (by kernel_rfl) (by kernel_rfl) (by kernel_rfl) (by kernel_rfl) (fun _ _ _ h => h) (Or.inl ⟨wanted_plain rfl _, fun w hSw => by kernel_rfl⟩) (by assumption) ?_
    simp only [List.set_cons_zero, List.set_cons_succ]
    refine f_take 4 122 (.slice (some ⟨g3, 0, none⟩) ni c3) rfl rfl (by kernel_rfl) (by kernel_rfl) (by kernel_rfl) (by kernel_rfl) (fun _ _ _ h => h) (Or.inl ⟨wanted_plain rfl _, fun w hSw => exec_load 23 (.tmp 121) rfl rfl (by go_simp)⟩) (by assumption) ?_
    simp only [List.set_cons_zero, List.set_cons_succ]
    refine f_take 5 123 (.int .i64 idx) rfl rfl (by kernel_rfl) (by kernel_rfl) (by kernel_rfl) (by kernel_rfl) (fun _ _ _ h => h) (Or.inl ⟨wanted_plain rfl _, fun w hSw => by kernel_rfl⟩) (by assumption) ?_
    simp only [List.set_cons_zero, List.set_cons_succ]
    refine f_take 6 124 (.slice Ah 32 ch) rfl rfl (by kernel_rfl) (by kernel_rfl) (by kernel_rfl) (by kernel_rfl) (fun _ _ _ h => h) (Or.inl ⟨wanted_plain rfl _, fun w hSw => by kernel_rfl⟩) (by assumption) ?_
    simp only [List.set_cons_zero, List.set_cons_succ]
    refine f_take 7 125 (.slice Ak 33 ck) rfl rfl (by kernel_rfl) (by kernel_rfl) (by kernel_rfl) (by kernel_rfl) (fun _ _ _ h => h) (Or.inl ⟨wanted_plain rfl _, fun w hSw => by kernel_rfl⟩) (by assumption) ?_
    simp only [List.set_cons_zero, List.set_cons_succ]
    refine f_take 8 126 (.int .u8 b) rfl rfl (by kernel_rfl) (by kernel_rfl) (by kernel_rfl) (by kernel_rfl) (fun _ _ _ h => h) (Or.inl ⟨wanted_plain rfl _, fun w hSw => by kernel_rfl⟩) (by assumption) ?_
    simp only [List.set_cons_zero, List.set_cons_succ]
    refine wpAnyF_ready (rs := [9]) (by kernel_rfl) (by simp) ?_
    refine AllReadyF.cons (o := _) rfl (fun K hK => ?_) AllReadyF.nil
    refine step_enter 127 9 #[.slice Ah 32 ch, .slice Ak 33 ck, .int .u8 (b : Int)] rfl rfl (by kernel_rfl) ?_
    refine HSGN.out.mono ?_
    rintro e w12 ⟨Asg, csg, rfl, hos, hb12⟩
    have HB12 := Lib.hid (show Below w11.heap.size w11 w12 from ⟨hb12.os, hb12.tape, hb12.output, hb12.size, hb12.block⟩)
    have hrs : Rd 0 w12 (.slice Asg sg.length csg) sg := Rd.of_own (B := 0) (by rw [hsgl]; exact hos) (by decide)
    have HPSH := spush_any w12 0 Asg csg sg (by omega) hrs
    rw [hsgl] at HPSH
    have HPSH := Lib.hid HPSH
    have xS12 : w12.cell? ⟨Tx, 1, none⟩ = some (.slice (some ⟨g3, 0, none⟩) ni c3) := cell_keep HB12.out xS
    clear hos hb12
    refine ⟨_, rfl, ?_⟩
    refine hK.out _ _ (.inr (xS12)) (fun hH => ?_)
    have hHeld := hH.resolve_left (by decide)
    clear hK K hH
    try simp only [List.set_cons_zero, List.set_cons_succ]
    refine wpAnyF_ready (rs := [10]) (by kernel_rfl) (by simp) ?_
    refine AllReadyF.cons (o := _) rfl (fun K hK => ?_) AllReadyF.nil
    refine step_enter 128 8 #[.slice Asg 13 csg] rfl rfl (by kernel_rfl) ?_
    refine HPSH.out.mono ?_
    rintro e w13 ⟨Ap, cp, es, rfl, hop, hel, hes, hb13⟩
    have hes' := hes (by omega)
    have HB13 := Lib.hid (HB12.out.trans (hb13.mono HB12.out.size))
    have xS13 : w13.cell? ⟨Tx, 1, none⟩ = some (.slice (some ⟨g3, 0, none⟩) ni c3) := cell_keep HB13.out xS
    have HPU := Lib.hid hop
    have hl14 : es.length = 14 := by rw [hes', pushT_mid (by omega) (by omega)]; simp [Tok.enc, hsgl]
    have hg13 := HG11.out.below HB13.out HG11.out.lt
    have gfz1 := hg13.frozen (idx * 36 + 33)
    have gfz2 := hg13.frozen (idx * 36 + 34)
    have gbl := hg13.lt
    have HG13 := Lib.hid hg13
    clear hop hb13 hrs hes hel hg13 HPSH
    refine ⟨_, rfl, ?_⟩
    refine hK.out _ _ (.inr (xS13)) (fun hH => ?_)
    have hHeld := hH.resolve_left (by decide)
    clear hK K hH
    try simp only [List.set_cons_zero, List.set_cons_succ]
    refine wpAnyF_ready (rs := [11]) (by kernel_rfl) (by simp) ?_
    refine AllReadyF.cons (o := _) rfl (fun K hK => ?_) AllReadyF.nil
    refine step_val 129 (v := .pointer (some ⟨g3, idx * 36, none⟩)) (w' := w13) rfl rfl (exec_iaddr 23 (.tmp 119) (.tmp 120) rfl rfl rfl (idx_in0 w13 g3 idx ni c3 (by omega))) ?_
    refine hK.out _ _ (.inr (xS13)) (fun hH => ?_)
    have hHeld := hH.resolve_left (by decide)
    clear hK K hH
    try simp only [List.set_cons_zero, List.set_cons_succ]
    refine wpAnyF_ready (rs := [12]) (by kernel_rfl) (by simp) ?_
    refine AllReadyF.cons (o := _) rfl (fun K hK => ?_) AllReadyF.nil
    refine step_val 130 (v := .pointer (some ⟨g3, idx * 36 + 33, none⟩)) (w' := w13) rfl rfl (by kernel_rfl) ?_
    refine hK.out _ _ (.inr (xS13)) (fun hH => ?_)
    have hHeld := hH.resolve_left (by decide)
    clear hK K hH
    try simp only [List.set_cons_zero, List.set_cons_succ]
    obtain ⟨v33, h33, -⟩ := HIR.out.one (idx * 36 + 33) (by rw [hni]; omega)
    obtain ⟨v34, h34, -⟩ := HIR.out.one (idx * 36 + 34) (by rw [hni]; omega)
    have x33 : w13.cell? ⟨g3, idx * 36 + 33, none⟩ = some v33 := cell_keep HB13.out ((HCU.out _ (by omega)).trans h33)
    have x34 : w13.cell? ⟨g3, idx * 36 + 34, none⟩ = some v34 := cell_keep HB13.out ((HCU.out _ (by omega)).trans h34)
    clear h33 h34
    refine wpAnyF_ready (rs := [13]) (by kernel_rfl) (by simp) ?_
    refine AllReadyF.cons (o := _) rfl (fun K hK => ?_) AllReadyF.nil
    refine step_skip' (w' := (w13.setCell ⟨g3, idx * 36 + 33, none⟩ (.slice Ap es.length cp))) rfl rfl (exec_store 30 (.tmp 130) (.tmp 128) rfl rfl rfl (by go_simp)) ?_
    have xS14 : (w13.setCell ⟨g3, idx * 36 + 33, none⟩ (.slice Ap es.length cp)).cell? ⟨Tx, 1, none⟩ = some (.slice (some ⟨g3, 0, none⟩) ni c3) := by
      rw [World.cell?_setCell_far _ ⟨g3, idx * 36 + 33, none⟩ ⟨Tx, 1, none⟩ _ hgX]
      exact xS13
    have y33 : (w13.setCell ⟨g3, idx * 36 + 33, none⟩ (.slice Ap es.length cp)).cell? ⟨g3, idx * 36 + 33, none⟩ = some (.slice Ap es.length cp) := World.cell?_setCell_same _ _ _ x33
    have y34 : (w13.setCell ⟨g3, idx * 36 + 33, none⟩ (.slice Ap es.length cp)).cell? ⟨g3, idx * 36 + 34, none⟩ = some v34 := by
      rw [World.cell?_setCell_other _ _ _ _ (by intro e; injection e with e1 e2; omega)]
      exact x34
    have yz := (HG13.out.set_ (idx * 36 + 33) (.slice Ap es.length cp)).frozen (idx * 36 + 34)
    have yl := (HG13.out.set_ (idx * 36 + 33) (.slice Ap es.length cp)).lt
    refine hK.out _ _ (.inr (xS14)) (fun hH => ?_)
    have hHeld := hH.resolve_left (by decide)
    clear hK K hH
    try simp only [List.set_cons_zero, List.set_cons_succ]
    generalize hw14 : (w13.setCell ⟨g3, idx * 36 + 33, none⟩ (.slice Ap es.length cp)) = w14 at *
    refine wpAnyF_ready (rs := [14]) (by kernel_rfl) (by simp) ?_
    refine AllReadyF.cons (o := _) rfl (fun K hK => ?_) AllReadyF.nil
    refine step_val 131 (v := .pointer (some ⟨g3, idx * 36, none⟩)) (w' := w14) rfl rfl (exec_iaddr 23 (.tmp 122) (.tmp 123) rfl rfl rfl (idx_in0 w14 g3 idx ni c3 (by omega))) ?_
    refine hK.out _ _ (.inr (xS14)) (fun hH => ?_)
    have hHeld := hH.resolve_left (by decide)
    clear hK K hH
    try simp only [List.set_cons_zero, List.set_cons_succ]
    refine wpAnyF_ready (rs := [15]) (by kernel_rfl) (by simp) ?_
    refine AllReadyF.cons (o := _) rfl (fun K hK => ?_) AllReadyF.nil
    refine step_val 132 (v := .pointer (some ⟨g3, idx * 36 + 34, none⟩)) (w' := w14) rfl rfl (by kernel_rfl) ?_
    refine hK.out _ _ (.inr (xS14)) (fun hH => ?_)
    have hHeld := hH.resolve_left (by decide)
    clear hK K hH
    try simp only [List.set_cons_zero, List.set_cons_succ]
    refine wpAnyF_ready (rs := [16]) (by kernel_rfl) (by simp) ?_
    refine AllReadyF.cons (o := _) rfl (fun K hK => ?_) AllReadyF.nil
    refine step_skip' (w' := w14.setCell ⟨g3, idx * 36 + 34, none⟩ (.slice none 0 0)) rfl rfl (exec_store 41 (.tmp 132) (.const (.slice none 0 0)) rfl rfl rfl (by go_simp)) ?_
    refine hK.out _ _ (.inl (by decide)) (fun _ => ?_)
    clear hK K
    try simp only [List.set_cons_zero, List.set_cons_succ]
    refine wpAnyF_done (by kernel_rfl) ?_ _
    have hg0 : W0.heap.size ≤ g3 := Nat.le_trans HW9.out.size hg9
    have hbW : Below W0.heap.size W0 (w14.setCell ⟨g3, idx * 36 + 34, none⟩ (.slice none 0 0)) := by
      rw [← hw14]
      exact ((Below.trans' HW11.out HW11.out.size (Below.lower HB13.out HW11.out.size)).setCell (p := ⟨g3, idx * 36 + 33, none⟩) hg0 _).setCell (p := ⟨g3, idx * 36 + 34, none⟩) hg0 _
    have hcx : ∀ i, i < ni * 36 → i ≠ idx * 36 + 33 → i ≠ idx * 36 + 34 → (w14.setCell ⟨g3, idx * 36 + 34, none⟩ (.slice none 0 0)).cell? ⟨g3, i, none⟩ = W0.cell? ⟨bi, oi + i, none⟩ := fun i hi h1 h2 => by
      obtain ⟨u, hu, -⟩ := HIN.out.one i (by rw [hni]; exact hi)
      rw [World.cell?_setCell_other _ _ _ _ (by intro e; injection e with e1 e2; omega), ← hw14, World.cell?_setCell_other _ _ _ _ (by intro e; injection e with e1 e2; omega), hu]
      exact cell_keep HB13.out ((HCU.out i hi).trans (cell_keep HW9.out hu))
    have z33 : (w14.setCell ⟨g3, idx * 36 + 34, none⟩ (.slice none 0 0)).cell? ⟨g3, idx * 36 + 33, none⟩ = some (.slice Ap es.length cp) := by
      rw [World.cell?_setCell_other _ _ _ _ (by intro e; injection e with e1 e2; omega)]
      exact y33
    have z34 : (w14.setCell ⟨g3, idx * 36 + 34, none⟩ (.slice none 0 0)).cell? ⟨g3, idx * 36 + 34, none⟩ = some (.slice none 0 0) := World.cell?_setCell_same _ _ _ y34
    have hro : Rd Bs (w14.setCell ⟨g3, idx * 36 + 34, none⟩ (.slice none 0 0)) (.slice Ap es.length cp) es := by
      have o1 := own_set (p := ⟨g3, idx * 36 + 33, none⟩) HPU.out HG13.out (by decide) (.slice Ap es.length cp)
      have o2 := own_set (p := ⟨g3, idx * 36 + 34, none⟩) o1 (HG13.out.set_ (idx * 36 + 33) (.slice Ap es.length cp)) (by decide) (.slice none 0 0)
      rw [← hw14]
      exact Rd.of_own o2 (by decide)
    have hX15 := ((HX11.out.below HB13.out HX11.out.lt).far (p := ⟨g3, idx * 36 + 33, none⟩) (Ne.symm hgX) (.slice Ap es.length cp)).far (p := ⟨g3, idx * 36 + 34, none⟩) (Ne.symm hgX) (.slice none 0 0)
    rw [hw14] at hX15
    generalize hw15 : w14.setCell ⟨g3, idx * 36 + 34, none⟩ (.slice none 0 0) = W15 at *
    have hins := HIN.out.turned hbW (by rw [hni]; exact hcx) z33 hro z34 HQI.out
    have HSX : Hid (SrcTx Bs W15 (some ⟨g3, 0, none⟩) (some ⟨g2, 0, none⟩) ((p.out1 j q val).in1 idx qi es)) := ⟨fun _ => ⟨g3, 0, rfl, hins⟩, (HSU.out.below hbW).outs⟩
    have hb815 : Below w8.heap.size w8 W15 := by
      have q1 : Below w8.heap.size w8 w13 := Below.trans' HB811.out HB811.out.size (Below.lower HB13.out HB811.out.size)
      have hg8 : w8.heap.size ≤ g3 := by rw [hTx]; exact Nat.le_trans hTx9 hg9
      have q2 := (q1.setCell (p := ⟨g3, idx * 36 + 33, none⟩) hg8 (.slice Ap es.length cp)).setCell (p := ⟨g3, idx * 36 + 34, none⟩) hg8 (.slice none 0 0)
      rw [hw14, hw15] at q2
      exact q2
    have HB815 := Lib.hid hb815
    clear hb815
    have HB15 := Lib.hid hbW
    have HX15 := Lib.hid hX15
    clear hins hbW hcx z33 z34 hro hg0 hX15 x33 x34 y33 y34 yz yl xS14 xS13 xS12 xS gfz1 gfz2 gbl
    have t0 := HX15.out.cell 0
    change _ = some (Value.int .i32 p.ver) at t0
    have t1 := HX15.out.cell 1
    change _ = some (Value.slice (some ⟨g3, 0, none⟩) ni c3) at t1
    have t2 := HX15.out.cell 2
    change _ = some (Value.slice (some ⟨g2, 0, none⟩) no c2) at t2
    have t3 := HX15.out.cell 3
    change _ = some (Value.int .u32 p.lock) at t3
    obtain ⟨m0, m1, m2, m3, hm⟩ := list4 (markL_len kc (sigHash kc (code (payT (2 :: sh))) (b : Nat) b false idx p.tx) (2 :: sh))
    have hsgB : sg = sigB m0 m1 m2 m3 k8 := by rw [← HSGD.out, hm]; rfl
    have hR := run_signed kc Bs W15 As (some ⟨g3, 0, none⟩) (some ⟨g2, 0, none⟩) cs c3 c2 idx b ((p.out1 j q val).in1 idx qi es) (qi.scr1 es).ti m0 m1 m2 m3 k8 sh hsh (HK.out.below HB15.out) (HSCR.out.below HB15.out) HSX.out (PT.in1_small hsmu idx qi es (by omega)) (PT.in1_get idx qi es (by show idx < p.ins.length; omega)) (by show es = _; rw [hes', hsgB]) hk8 hb
    have e1 : ((p.out1 j q val).in1 idx qi es).ins.length = ni := by simp [PT.in1, PT.out1, hni]
    have e2 : ((p.out1 j q val).in1 idx qi es).outs.length = no := by simp [PT.in1, PT.out1, hno]
    rw [e1, e2, sigOk_mark kc _ m0 m1 m2 m3 k8 b false idx _ (2 :: sh) (sigHash kc (code (payT (2 :: sh))) (b : Nat) b false idx p.tx) hm, hk8, sigHash_in1 kc _ _ b false idx (p.out1 j q val) idx qi es HQI.out] at hR
    have HR := Lib.hid hR
    have HM := Lib.hid hm
    clear hR e1 e2 hm hsgB
    go_wp2_with fail
    refine HR.out.mono ?_
    rintro e w16 ⟨kk, Ar, nr, cr, rfl, hk0, hk1, hkk, hb16⟩
    have HB16 := Lib.hid (Below.trans' HB15.out HB15.out.size (Below.lower hb16 HB15.out.size))
    have HKK := Lib.hid hkk
    have hb816 := Below.trans' HB815.out HB815.out.size (Below.lower hb16 HB815.out.size)
    have HH := Lib.hid (HH8.out.below hb816)
    have HG := Lib.hid (HG8.out.below hb816)
    clear hb16 hb816 hkk t0 t1 t2 t3 HR
    have HKC := Lib.hid (Cells.of_rd (HKEY.out.below HB16.out))
    have HK16 := Lib.hid (HK.out.below HB16.out)
    generalize hl1 : sigHash kc (code (payT (2 :: sh))) (b : Nat) b false idx p.tx = l1 at *
    generalize hl2 : sigHash kc (code (payT (2 :: sh))) (b : Nat) b false idx (p.out1 j q val).tx = l2 at *
    have HST : Hid ((b = 2 ∨ (b = 3 ∧ j ≠ idx)) → l2 = l1) := fun h => by rw [← hl1, ← hl2]; exact sigHash_out1 kc _ _ b false idx p j q val h
    clear hl1 hl2
    rcases (show b = 2 ∨ (b = 3 ∧ ¬ j = idx) ∨ (b = 3 ∧ j = idx) ∨ b = 1 by omega) with hbc | ⟨hbc, hji⟩ | ⟨hbc, hji⟩ | hbc
    · subst hbc
      have HE21 := Lib.hid (HST.out (.inl rfl))
      go_upto_region 27 with fail
      have h12 : (l1 == l2) = true := by rw [HE21.out]; simp
      have hsa := same_tell w16 Ah Ag 32 32 ch cg8 l1 l2 HH.out HG.out (by omega)
      rw [h12] at hsa
      have HSA := Lib.hid hsa
      clear hsa h12
      go_wp2_with fail
      refine HSA.out.mono ?_
      rintro e w17 ⟨rfl, hb17⟩
      have HH := Lib.hid (HH.out.below hb17)
      have HG := Lib.hid (HG.out.below hb17)
      have HKC := Lib.hid (HKC.out.below hb17)
      have HK17 := Lib.hid (HK16.out.below hb17)
      have HB17 := Lib.hid (Below.trans' HB16.out HB16.out.size (Below.lower hb17 HB16.out.size))
      clear hb17
      go_wp2_with fail
      refine (markI_any kc w17 Ah Ak 32 33 ch ck l1 (2 :: sh) HK17.out HH.out HKC.out (by omega)).mono ?_
      rintro e w18 ⟨Am1, cm1, rfl, hom1, hb18⟩
      have HG := Lib.hid (HG.out.below hb18)
      have HKC := Lib.hid (HKC.out.below hb18)
      have HK18 := Lib.hid (HK17.out.below hb18)
      have HC1 := Lib.hid (Cells.of_own hom1)
      have HB18 := Lib.hid (Below.trans' HB17.out HB17.out.size (Below.lower hb18 HB17.out.size))
      clear hom1 hb18
      go_wp2_with fail
      refine (markI_any kc w18 Ag Ak 32 33 cg8 ck l2 (2 :: sh) HK18.out HG.out HKC.out (by omega)).mono ?_
      rintro e w19 ⟨Am2, cm2, rfl, hom2, hb19⟩
      have HC1 := Lib.hid (HC1.out.below hb19)
      have HC2 := Lib.hid (Cells.of_own hom2)
      have HB19 := Lib.hid (Below.trans' HB18.out HB18.out.size (Below.lower hb19 HB18.out.size))
      clear hom2 hb19
      go_wp2_with fail
      refine (same_tell w19 Am1 Am2 4 4 cm1 cm2 _ _ HC1.out HC2.out (by omega)).mono ?_
      rintro e w20 ⟨rfl, hb20⟩
      have HB20 := Lib.hid (Below.trans' HB19.out HB19.out.size (Below.lower hb20 HB19.out.size))
      clear hb20
      by_cases hkz : kk = 0
      · have hmm := HKK.out.1 hkz
        subst hkz
        rw [hmm]
        clear hmm
        go_wp2_with fail
        go_roundg (4 - (2 + 1) + 1)
        case measure => have := HKB.out; omega
        case rel => exact ⟨2 + 1, rfl, by omega, by omega, rfl, HB20.out⟩
      · have hmm : (markL kc l1 (2 :: sh) == markL kc l2 (2 :: sh)) = false := by
          cases h : (markL kc l1 (2 :: sh) == markL kc l2 (2 :: sh)) with
          | true => exact absurd (HKK.out.2 h) hkz
          | false => rfl
        have hk3 : (kk == 0) = false := by simpa using hkz
        rw [hmm]
        clear hmm
        go_wp2_with fail
        go_roundg (4 - (2 + 1) + 1)
        case measure => have := HKB.out; omega
        case rel => exact ⟨2 + 1, rfl, by omega, by omega, rfl, HB20.out⟩
    · subst hbc
      have HE21 := Lib.hid (HST.out (.inr ⟨rfl, hji⟩))
      have n1 : ((j : Int) != (idx : Int)) = true := by simp [bne]; omega
      go_upto_region 27 with fail
      have h12 : (l1 == l2) = true := by rw [HE21.out]; simp
      have hsa := same_tell w16 Ah Ag 32 32 ch cg8 l1 l2 HH.out HG.out (by omega)
      rw [h12] at hsa
      have HSA := Lib.hid hsa
      clear hsa h12
      go_wp2_with fail
      refine HSA.out.mono ?_
      rintro e w17 ⟨rfl, hb17⟩
      have HH := Lib.hid (HH.out.below hb17)
      have HG := Lib.hid (HG.out.below hb17)
      have HKC := Lib.hid (HKC.out.below hb17)
      have HK17 := Lib.hid (HK16.out.below hb17)
      have HB17 := Lib.hid (Below.trans' HB16.out HB16.out.size (Below.lower hb17 HB16.out.size))
      clear hb17
      go_wp2_with fail
      refine (markI_any kc w17 Ah Ak 32 33 ch ck l1 (2 :: sh) HK17.out HH.out HKC.out (by omega)).mono ?_
      rintro e w18 ⟨Am1, cm1, rfl, hom1, hb18⟩
      have HG := Lib.hid (HG.out.below hb18)
      have HKC := Lib.hid (HKC.out.below hb18)
      have HK18 := Lib.hid (HK17.out.below hb18)
      have HC1 := Lib.hid (Cells.of_own hom1)
      have HB18 := Lib.hid (Below.trans' HB17.out HB17.out.size (Below.lower hb18 HB17.out.size))
      clear hom1 hb18
      go_wp2_with fail
      refine (markI_any kc w18 Ag Ak 32 33 cg8 ck l2 (2 :: sh) HK18.out HG.out HKC.out (by omega)).mono ?_
      rintro e w19 ⟨Am2, cm2, rfl, hom2, hb19⟩
      have HC1 := Lib.hid (HC1.out.below hb19)
      have HC2 := Lib.hid (Cells.of_own hom2)
      have HB19 := Lib.hid (Below.trans' HB18.out HB18.out.size (Below.lower hb19 HB18.out.size))
      clear hom2 hb19
      go_wp2_with fail
      refine (same_tell w19 Am1 Am2 4 4 cm1 cm2 _ _ HC1.out HC2.out (by omega)).mono ?_
      rintro e w20 ⟨rfl, hb20⟩
      have HB20 := Lib.hid (Below.trans' HB19.out HB19.out.size (Below.lower hb20 HB19.out.size))
      clear hb20
      by_cases hkz : kk = 0
      · have hmm := HKK.out.1 hkz
        subst hkz
        rw [hmm]
        clear hmm
        go_wp2_with fail
        go_roundg (4 - (3 + 1) + 1)
        case measure => have := HKB.out; omega
        case rel => exact ⟨3 + 1, rfl, by omega, by omega, rfl, HB20.out⟩
      · have hmm : (markL kc l1 (2 :: sh) == markL kc l2 (2 :: sh)) = false := by
          cases h : (markL kc l1 (2 :: sh) == markL kc l2 (2 :: sh)) with
          | true => exact absurd (HKK.out.2 h) hkz
          | false => rfl
        have hk3 : (kk == 0) = false := by simpa using hkz
        rw [hmm]
        clear hmm
        go_wp2_with fail
        go_roundg (4 - (3 + 1) + 1)
        case measure => have := HKB.out; omega
        case rel => exact ⟨3 + 1, rfl, by omega, by omega, rfl, HB20.out⟩
    · subst hbc
      have n1 : ((j : Int) != (idx : Int)) = false := by simp [bne]; omega
      clear hji
      go_upto_region 27 with fail
      go_wp2_with fail
      refine (markI_any kc w16 Ah Ak 32 33 ch ck l1 (2 :: sh) HK16.out HH.out HKC.out (by omega)).mono ?_
      rintro e w18 ⟨Am1, cm1, rfl, hom1, hb18⟩
      have HG := Lib.hid (HG.out.below hb18)
      have HKC := Lib.hid (HKC.out.below hb18)
      have HK18 := Lib.hid (HK16.out.below hb18)
      have HC1 := Lib.hid (Cells.of_own hom1)
      have HB18 := Lib.hid (Below.trans' HB16.out HB16.out.size (Below.lower hb18 HB16.out.size))
      clear hom1 hb18
      go_wp2_with fail
      refine (markI_any kc w18 Ag Ak 32 33 cg8 ck l2 (2 :: sh) HK18.out HG.out HKC.out (by omega)).mono ?_
      rintro e w19 ⟨Am2, cm2, rfl, hom2, hb19⟩
      have HC1 := Lib.hid (HC1.out.below hb19)
      have HC2 := Lib.hid (Cells.of_own hom2)
      have HB19 := Lib.hid (Below.trans' HB18.out HB18.out.size (Below.lower hb19 HB18.out.size))
      clear hom2 hb19
      go_wp2_with fail
      refine (same_tell w19 Am1 Am2 4 4 cm1 cm2 _ _ HC1.out HC2.out (by omega)).mono ?_
      rintro e w20 ⟨rfl, hb20⟩
      have HB20 := Lib.hid (Below.trans' HB19.out HB19.out.size (Below.lower hb20 HB19.out.size))
      clear hb20
      by_cases hkz : kk = 0
      · have hmm := HKK.out.1 hkz
        subst hkz
        rw [hmm]
        clear hmm
        go_wp2_with fail
        go_roundg (4 - (3 + 1) + 1)
        case measure => have := HKB.out; omega
        case rel => exact ⟨3 + 1, rfl, by omega, by omega, rfl, HB20.out⟩
      · have hmm : (markL kc l1 (2 :: sh) == markL kc l2 (2 :: sh)) = false := by
          cases h : (markL kc l1 (2 :: sh) == markL kc l2 (2 :: sh)) with
          | true => exact absurd (HKK.out.2 h) hkz
          | false => rfl
        have hk3 : (kk == 0) = false := by simpa using hkz
        rw [hmm]
        clear hmm
        go_wp2_with fail
        go_roundg (4 - (3 + 1) + 1)
        case measure => have := HKB.out; omega
        case rel => exact ⟨3 + 1, rfl, by omega, by omega, rfl, HB20.out⟩
    · subst hbc
      go_upto_region 27 with fail
      go_wp2_with fail
      refine (markI_any kc w16 Ah Ak 32 33 ch ck l1 (2 :: sh) HK16.out HH.out HKC.out (by omega)).mono ?_
      rintro e w18 ⟨Am1, cm1, rfl, hom1, hb18⟩
      have HG := Lib.hid (HG.out.below hb18)
      have HKC := Lib.hid (HKC.out.below hb18)
      have HK18 := Lib.hid (HK16.out.below hb18)
      have HC1 := Lib.hid (Cells.of_own hom1)
      have HB18 := Lib.hid (Below.trans' HB16.out HB16.out.size (Below.lower hb18 HB16.out.size))
      clear hom1 hb18
      go_wp2_with fail
      refine (markI_any kc w18 Ag Ak 32 33 cg8 ck l2 (2 :: sh) HK18.out HG.out HKC.out (by omega)).mono ?_
      rintro e w19 ⟨Am2, cm2, rfl, hom2, hb19⟩
      have HC1 := Lib.hid (HC1.out.below hb19)
      have HC2 := Lib.hid (Cells.of_own hom2)
      have HB19 := Lib.hid (Below.trans' HB18.out HB18.out.size (Below.lower hb19 HB18.out.size))
      clear hom2 hb19
      go_wp2_with fail
      refine (same_tell w19 Am1 Am2 4 4 cm1 cm2 _ _ HC1.out HC2.out (by omega)).mono ?_
      rintro e w20 ⟨rfl, hb20⟩
      have HB20 := Lib.hid (Below.trans' HB19.out HB19.out.size (Below.lower hb20 HB19.out.size))
      clear hb20
      by_cases hkz : kk = 0
      · have hmm := HKK.out.1 hkz
        subst hkz
        rw [hmm]
        clear hmm
        go_wp2_with fail
        go_roundg (4 - (1 + 1) + 1)
        case measure => have := HKB.out; omega
        case rel => exact ⟨1 + 1, rfl, by omega, by omega, rfl, HB20.out⟩
      · have hmm : (markL kc l1 (2 :: sh) == markL kc l2 (2 :: sh)) = false := by
          cases h : (markL kc l1 (2 :: sh) == markL kc l2 (2 :: sh)) with
          | true => exact absurd (HKK.out.2 h) hkz
          | false => rfl
        have hk3 : (kk == 0) = false := by simpa using hkz
        rw [hmm]
        clear hmm
        go_wp2_with fail
        go_roundg (4 - (1 + 1) + 1)
        case measure => have := HKB.out; omega
        case rel => exact ⟨1 + 1, rfl, by omega, by omega, rfl, HB20.out⟩
end Go.Proofs.YtkgihpebghmnbaaGreatDoor
