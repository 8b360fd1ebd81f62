/- SHA-256: the sum. -/
import Derived.Test.YtkgihpebghmnbaaGreatDoorG20
import Derived.Test.YtkgihpebghmnbaaGreatDoorG07
namespace Go.Proofs.YtkgihpebghmnbaaGreatDoor
open Go.RowKit Go.Proofs

set_option maxRecDepth 100000

theorem rest_nx (kc : Nat → Int) (s : Sh) (bs : List UInt8) (h : s.nx = 0) : (s.rest kc bs).nx = bs.length % 64 := by
  have e : (bs.drop (64 * (bs.length / 64))).length = bs.length % 64 := by rw [List.length_drop]; omega
  unfold Sh.rest
  simp only
  by_cases h0 : (bs.drop (64 * (bs.length / 64))).length = 0
  · rw [if_pos h0]
    by_cases h1 : bs.length < 64
    · rw [if_pos h1]; omega
    · rw [if_neg h1]; show s.nx = _; omega
  · rw [if_neg h0]; exact e
theorem feed_nx (kc : Nat → Int) (s : Sh) (bs : List UInt8) (h : s.nx < 64) : (s.feed kc bs).nx = (s.nx + bs.length) % 64 := by
  unfold Sh.feed
  simp only
  by_cases h0 : s.nx = 0
  · rw [if_pos h0]
    have hh := rest_nx kc ({ s with len := (s.len + bs.length) % 18446744073709551616 } : Sh) bs h0
    rw [hh]
    omega
  · rw [if_neg h0]
    by_cases h1 : s.nx + bs.length < 64
    · rw [if_pos h1]; show s.nx + bs.length = _; omega
    · rw [if_neg h1]
      refine (rest_nx kc _ _ rfl).trans ?_
      rw [List.length_drop]
      omega

/-- The bytes of the eight words. -/
def sumB (r : R8) : List UInt8 := be4 r.a ++ be4 r.b ++ be4 r.c ++ be4 r.d ++ be4 r.e ++ be4 r.f ++ be4 r.g ++ be4 r.h
def padT (len : Nat) : Nat := if len % 64 < 56 then 56 - len % 64 else 120 - len % 64
/-- The sum of a hash. -/
def Sh.out (kc : Nat → Int) (s : Sh) : List UInt8 := sumB (s.feed kc (padB (padT s.len) (IntKind.u64.wrap ((s.len : Int) * 8)))).r

theorem sum_cells1 (r : R8) : be32c (be32c (be32c (be32c (be32c (be32c (be32c (be32c (Array.replicate 32 (Value.int .u8 0)) 0 r.a) 4 r.b) 8 r.c) 12 r.d) 16 r.e) 20 r.f) 24 r.g) 28 r.h = #[.int .u8 (r.a / 16777216 % 256), .int .u8 (r.a / 65536 % 256), .int .u8 (r.a / 256 % 256), .int .u8 (r.a % 256), .int .u8 (r.b / 16777216 % 256), .int .u8 (r.b / 65536 % 256), .int .u8 (r.b / 256 % 256), .int .u8 (r.b % 256), .int .u8 (r.c / 16777216 % 256), .int .u8 (r.c / 65536 % 256), .int .u8 (r.c / 256 % 256), .int .u8 (r.c % 256), .int .u8 (r.d / 16777216 % 256), .int .u8 (r.d / 65536 % 256), .int .u8 (r.d / 256 % 256), .int .u8 (r.d % 256), .int .u8 (r.e / 16777216 % 256), .int .u8 (r.e / 65536 % 256), .int .u8 (r.e / 256 % 256), .int .u8 (r.e % 256), .int .u8 (r.f / 16777216 % 256), .int .u8 (r.f / 65536 % 256), .int .u8 (r.f / 256 % 256), .int .u8 (r.f % 256), .int .u8 (r.g / 16777216 % 256), .int .u8 (r.g / 65536 % 256), .int .u8 (r.g / 256 % 256), .int .u8 (r.g % 256), .int .u8 (r.h / 16777216 % 256), .int .u8 (r.h / 65536 % 256), .int .u8 (r.h / 256 % 256), .int .u8 (r.h % 256)] := by kernel_rfl
theorem sum_cells (r : R8) : be32c (be32c (be32c (be32c (be32c (be32c (be32c (be32c (Array.replicate 32 (Value.int .u8 0)) 0 r.a) 4 r.b) 8 r.c) 12 r.d) 16 r.e) 20 r.f) 24 r.g) 28 r.h = (bv (sumB r)).toArray := by
  have e : bv (sumB r) = bv (be4 r.a) ++ (bv (be4 r.b) ++ (bv (be4 r.c) ++ (bv (be4 r.d) ++ (bv (be4 r.e) ++ (bv (be4 r.f) ++ (bv (be4 r.g) ++ bv (be4 r.h))))))) := by simp [sumB, bv_append]
  rw [sum_cells1, e]
  unfold be4
  simp only [bv_u8]
  simp [bv]

theorem load_row32 (w : World) (g : Nat) (C : Array Value) (hb : Blk w g 22 C) (hC : C.size = 32) : (loadVar 22 ⟨g, 0, none⟩).run Tryz.prog w = .ok (.agg C) w := by
  have hi : (Tryz.prog.info? 22).map (·.size) = some 32 := by kernel_rfl
  exact run_loadVar_row w g 22 22 C (0, 0) _ hb Tryz.underlying22 rfl (by rw [hC]; exact hi)
theorem load_at32 (w : World) (g : Nat) (C : Array Value) (hb : Blk w g 22 C) (hC : C.size = 32) : (Instr.loadAt 22 (.pointer (some ⟨g, 0, none⟩))).run Tryz.prog w = .ok (.agg C) w := by
  simp only [Instr.loadAt, Instr.sureAddr, Sem.run_bind, Sem.run_pure, Result.andThen]
  exact load_row32 w g C hb hC
theorem store_at32 (w : World) (g : Nat) (old C : Array Value) (hb : Blk w g 22 old) (ho : old.size = 32) (hC : C.size = 32) (h1 : C.all (·.oneCell') = true) : (Instr.storeAt 22 (.pointer (some ⟨g, 0, none⟩)) (.agg C)).run Tryz.prog w = .ok () (w.setRow g C) := by
  have hi : (Tryz.prog.info? 22).map (·.size) = some 32 := by kernel_rfl
  simp only [Instr.storeAt, Instr.sureAddr, Sem.run_bind, Sem.run_pure, Result.andThen]
  exact run_storeVar_row w g 22 22 old C hb (by rw [hC]; exact hi) (by rw [ho, hC]) h1
theorem bv_one (bs : List UInt8) : (bv bs).toArray.all (·.oneCell') = true := by
  simp [bv, Value.oneCell']
theorem sumB_length (r : R8) : (sumB r).length = 32 := rfl

theorem wpList_load {P : Program} {w : World} {ops : Array Oper} {rest : List Oper} {o : Oper} {a : Act} {Q : Exit → Act → World → Prop} (ty : TypeId) (x : Operand) (_ho : o.op = .load ty x) (hgd : o.guard = none) (v : Value)
    (hr : (execOp a.eval o).run P w = .ok (.value v) w) (h : wpList P ops Q rest (a.put o.dst v) w) : wpList P ops Q (o :: rest) a w := wpList_run_value hgd v hr h
theorem wpList_skip {P : Program} {w w' : World} {ops : Array Oper} {rest : List Oper} {o : Oper} {a : Act} {Q : Exit → Act → World → Prop} (hgd : o.guard = none) (hd : o.dst = none)
    (hr : (execOp a.eval o).run P w = .ok .skip w') (h : wpList P ops Q rest a w') : wpList P ops Q (o :: rest) a w :=
  wpList_plain hgd fun K hK => by
    unfold Oper.wp
    rw [hr]
    have e : a.put o.dst undef = a := by rw [hd]; rfl
    exact hK _ _ (by rw [e]; exact h)

theorem results_cell {fn : Func} {a : Tmp} {t : TypeId} (h : fn.results = #[.cell a t]) (tmps : Array Value) (P : Program) (w : World) (b : Nat) (v : Value) (hp : tmps.getD a undef = .pointer (some ⟨b, 0, none⟩)) (hl : (loadVar t ⟨b, 0, none⟩).run P w = .ok v w) :
    (results fn tmps).run P w = .ok v w := by
  have ha : (asAddr (.pointer (some ⟨b, 0, none⟩))).run P w = .ok ⟨b, 0, none⟩ w := rfl
  have hp2 : tmps[a]?.getD undef = .pointer (some ⟨b, 0, none⟩) := by rw [← hp]; simp
  simp [results, h, hp2, ha, hl]

theorem cell_m1 {w w' : World} {b : Nat} {a : Addr} {u : Value} (h : Fm (M1 b) w w') (ha : a.block ≠ b) (hc : w.cell? a = some u) : w'.cell? a = some u :=
  (World.cell?_of_block (w := w) (h.block _ (World.block_lt_of_cell? w _ hc) ha)).trans hc

set_option maxHeartbeats 2000000 in
theorem checkSum_any (kc : Nat → Int) (w : World) (d : Nat) (s : Sh) (hd : Dg w d s) (hk : KT kc w) (hG : 3 ≠ d) (hlen : s.len < 18446744073709551616) (hnx : s.nx = s.len % 64) :
    Calls Tryz.prog 297 #[.pointer (some ⟨d, 0, none⟩)] w fun e w' => e = .returned (.agg (bv (s.out kc)).toArray) ∧ (∃ s', Dg w' d s') ∧ Fm (M1 d) w w' := by
  have hb1 := (Below.refl w.heap.size w).alloc (Nat.le_refl _) (.cells (Array.replicate 32 (.int .u8 0)) 22)
  have hd1 := hd.1.below hb1 hd.1.lt
  have hk1 : KT kc (w.alloc (.cells (Array.replicate 32 (.int .u8 0)) 22)) := fun i hi => cell_keep hb1 (hk i hi)
  have hdl := hd.1.lt
  have hgl := World.block_lt_of_cell? w _ (hk 0 (by omega))
  have l0 := (hd1.cell 73).trans (Sh.cell_len hd.2)
  have hrb := Blk.new w 22 (Array.replicate 32 (.int .u8 0))
  have HX := Lib.hid hd.2
  obtain ⟨t, htd⟩ : ∃ t, padT s.len = t := ⟨_, rfl⟩
  have htr : 1 ≤ t ∧ t ≤ 64 ∧ (s.len + t) % 64 = 56 := by
    rw [← htd]
    unfold padT
    split <;> omega
  obtain ⟨t1, t64, t56⟩ := htr
  have HB1 := Lib.hid hb1
  clear hk hd
  generalize hrbe : w.heap.size = rb at *
  go_enter Tryz.func297, Tryz.ntmps297
  go_wp2_with (refine wpList_alloc 22 rfl rfl (Array.replicate 32 (.int .u8 0)) (by kernel_rfl) ?_; refine Stop.mk ?_)
  refine Stop.go ?_
  have hrl := hrb.lt
  generalize w.alloc (.cells (Array.replicate 32 (.int .u8 0)) 22) = w1 at *
  go_wp2_with (refine wpList_alloc 348 rfl rfl (Array.replicate 72 (.int .u8 0)) (by kernel_rfl) ?_; refine Stop.mk ?_)
  refine Stop.go ?_
  have hb2 := Blk.new w1 348 (Array.replicate 72 (.int .u8 0))
  have hbel2 := (Below.refl w1.heap.size w1).alloc (Nat.le_refl _) (.cells (Array.replicate 72 (.int .u8 0)) 348)
  have HBEL2 := Lib.hid hbel2
  have hd2 := hd1.below hbel2 (by omega)
  have hk2 : KT kc (w1.alloc (.cells (Array.replicate 72 (.int .u8 0)) 348)) := fun i hi => cell_keep hbel2 (hk1 i hi)
  have hrb2 := hrb.below hbel2 hrb.lt
  generalize htb : w1.heap.size = tb at *
  generalize w1.alloc (.cells (Array.replicate 72 (.int .u8 0)) 348) = w2 at *
  have t0 := hb2.cell 0
  change _ = some (Value.int .u8 0) at t0
  have tf := hb2.frozen
  have hne : tb ≠ d := by omega
  have hb3 := hb2.set_ 0 (.int .u8 128)
  have hd3 := hd2.far (p := ⟨tb, 0, none⟩) (Ne.symm hne) (.int .u8 128)
  have hrb3 := hrb2.far (p := ⟨tb, 0, none⟩) (show rb ≠ tb by omega) (.int .u8 128)
  have hF3 : Fm (M1 tb) w2 (w2.setCell ⟨tb, 0, none⟩ (.int .u8 128)) := (Fm.refl _ _).set1 0 _
  have hpc : Cells (w2.setCell ⟨tb, 0, none⟩ (.int .u8 128)) (some ⟨tb, 0, none⟩) 0 [] := ⟨rfl, fun h => by omega⟩
  have v1 : (t : Int) + 8 ≤ 72 := by omega
  have v2 : (0 : Int) ≤ (t : Int) + 8 := by omega
  have v3 : ((t : Int) + 8).toNat = t + 8 := by omega
  have v4 : (0 : Int) ≤ (t : Int) := by omega
  have v5 : (t : Int) ≤ (t : Int) + 8 := by omega
  have v6 : t + 8 - t = 8 := by omega
  have v7 : ¬ 72 - t = 0 := by omega
  have HB3 := Lib.hid hb3
  have HD3 := Lib.hid hd3
  have HR3 := Lib.hid hrb3
  have HK2 := Lib.hid hk2
  have HF3 := Lib.hid hF3
  have H8 := Lib.hid (be64_any (w2.setCell ⟨tb, 0, none⟩ (.int .u8 128)) tb t 8 (72 - t) _ _ (IntKind.u64.wrap ((s.len : Int) * 8)) hb3 (by omega) (by simp; omega))
  clear hb3 hd3 hrb3 hk2 hF3 hpc hd2 hrb2 hb2 hbel2 hk1 hd1 hrb hb1
  by_cases h56 : s.len % 64 < 56
  · have i1 : (s.len : Int) % 64 < 56 := by omega
    have i2 : 56 - (s.len : Int) % 64 = (t : Int) := by
      rw [← htd]
      unfold padT
      rw [if_pos h56]
      omega
    go_wp2_with fail
    refine H8.out.mono ?_
    rintro e w4 ⟨rfl, hb4, hf4⟩
    have hd4 := HD3.out.fm hf4 (show ¬ d = tb from Ne.symm hne)
    have hr4 := HR3.out.fm hf4 (show ¬ rb = tb by omega)
    have hk4 : KT kc w4 := (HK2.out.fm HF3.out (by omega)).fm hf4 (by omega)
    have hpl := padB_length t (IntKind.u64.wrap ((s.len : Int) * 8)) t1
    have hc4 : Cells w4 (some ⟨tb, 0, none⟩) (t + 8) (bv (padB t (IntKind.u64.wrap ((s.len : Int) * 8)))) := ⟨by rw [bv_length, hpl], fun _ => ⟨tb, 0, rfl, fun j u hj => by
      have hjl := (List.getElem?_eq_some_iff.1 hj).1
      rw [bv_length, hpl] at hjl
      rw [Nat.zero_add, hb4.cell, pad_cells t t1 t64 _ j hjl]
      exact hj⟩⟩
    have HWR := Lib.hid (write_any kc w4 d (t + 8) 72 _ _ s ⟨hd4, HX.out⟩ (by omega) hlen hk4 hG hc4 (fun b o e => by injection e with e; injection e with e1 e2; omega) (by omega) (by omega))
    have HR4 := Lib.hid hr4
    clear hb4 hd4 hr4 hk4 hc4
    go_wp2_with fail
    refine HWR.out.mono ?_
    rintro e w5 ⟨rfl, hd5, hf5⟩
    have hn5 : (s.feed kc (padB t (IntKind.u64.wrap ((s.len : Int) * 8)))).nx = 0 := by
      rw [feed_nx kc s _ (by omega), hpl]
      omega
    have x5 := (hd5.1.cell 72).trans (Sh.cell_nx hd5.2)
    rw [hn5] at x5
    obtain ⟨s2, hs2⟩ : ∃ s2, s.feed kc (padB t (IntKind.u64.wrap ((s.len : Int) * 8))) = s2 := ⟨_, rfl⟩
    rw [hs2] at hd5
    have HD5 := Lib.hid hd5
    have HR5 := Lib.hid (HR4.out.fm hf5 (show ¬ rb = d by omega))
    clear hd5 HWR HR4
    go_wp2_with (refine wpList_alloc 22 rfl rfl (Array.replicate 32 (.int .u8 0)) (by kernel_rfl) ?_; refine Stop.mk ?_)
    refine Stop.go ?_
    have hbg := Blk.new w5 22 (Array.replicate 32 (Value.int .u8 0))
    have hbel6 := (Below.refl w5.heap.size w5).alloc (Nat.le_refl _) (.cells (Array.replicate 32 (Value.int .u8 0)) 22)
    have hd6 := HD5.out.1.below hbel6 HD5.out.1.lt
    have hr6 := HR5.out.below hbel6 HR5.out.lt
    have hdl5 := HD5.out.1.lt
    have hrl5 := HR5.out.lt
    have HF5 := Lib.hid hf5
    have HBEL6 := Lib.hid hbel6
    have HF4 := Lib.hid hf4
    generalize hgb : w5.heap.size = gb at *
    generalize w5.alloc (.cells (Array.replicate 32 (Value.int .u8 0)) 22) = w6 at *
    have hgd : gb ≠ d := by omega
    have q6 := (hd6.cell 74).trans (Sh.cell_is HD5.out.2)
    have z0 := hd6.cell 0
    change _ = some (Value.int .u32 s2.r.a) at z0
    have z1 := hd6.cell 1
    change _ = some (Value.int .u32 s2.r.b) at z1
    have z2 := hd6.cell 2
    change _ = some (Value.int .u32 s2.r.c) at z2
    have z3 := hd6.cell 3
    change _ = some (Value.int .u32 s2.r.d) at z3
    have z4 := hd6.cell 4
    change _ = some (Value.int .u32 s2.r.e) at z4
    have z5 := hd6.cell 5
    change _ = some (Value.int .u32 s2.r.f) at z5
    have z6 := hd6.cell 6
    change _ = some (Value.int .u32 s2.r.g) at z6
    have z7 := hd6.cell 7
    change _ = some (Value.int .u32 s2.r.h) at z7
    have HR6 := Lib.hid hr6
    have HD6 := Lib.hid hd6
    clear hd6 hr6
    have HG0 := Lib.hid hbg
    clear hbg
    go_wp2_with fail
    go_region_held3 (fun w' => w'.cell? ⟨d, 0, none⟩ = some (.int .u32 s2.r.a)) ((first | exact z0 | exact cell_m1 (w := w6.drew) (by assumption) (Ne.symm hgd) z0))
      (first | (go_at_call 302; refine (be32_any w6.drew gb 0 32 32 22 _ s2.r.a (show Blk w6 gb _ _ from HG0.out) (by omega) (by simp )).mono ?_; rintro e x0 ⟨rfl, hbx0, hfx0⟩))
    replace z1 := cell_m1 (w := w6.drew) hfx0 (Ne.symm hgd) z1
    replace z2 := cell_m1 (w := w6.drew) hfx0 (Ne.symm hgd) z2
    replace z3 := cell_m1 (w := w6.drew) hfx0 (Ne.symm hgd) z3
    replace z4 := cell_m1 (w := w6.drew) hfx0 (Ne.symm hgd) z4
    replace z5 := cell_m1 (w := w6.drew) hfx0 (Ne.symm hgd) z5
    replace z6 := cell_m1 (w := w6.drew) hfx0 (Ne.symm hgd) z6
    replace z7 := cell_m1 (w := w6.drew) hfx0 (Ne.symm hgd) z7
    replace q6 := cell_m1 (w := w6.drew) hfx0 (Ne.symm hgd) q6
    have HG1 := Lib.hid hbx0
    clear hbx0
    go_wp2_with fail
    go_region_held3 (fun w' => w'.cell? ⟨d, 1, none⟩ = some (.int .u32 s2.r.b)) ((first | exact z1 | exact cell_m1 (w := x0.drew) (by assumption) (Ne.symm hgd) z1))
      (first | (go_at_call 302; refine (be32_any x0.drew gb 4 28 28 22 _ s2.r.b (show Blk x0 gb _ _ from HG1.out) (by omega) (by simp [be32c])).mono ?_; rintro e x1 ⟨rfl, hbx1, hfx1⟩))
    replace z2 := cell_m1 (w := x0.drew) hfx1 (Ne.symm hgd) z2
    replace z3 := cell_m1 (w := x0.drew) hfx1 (Ne.symm hgd) z3
    replace z4 := cell_m1 (w := x0.drew) hfx1 (Ne.symm hgd) z4
    replace z5 := cell_m1 (w := x0.drew) hfx1 (Ne.symm hgd) z5
    replace z6 := cell_m1 (w := x0.drew) hfx1 (Ne.symm hgd) z6
    replace z7 := cell_m1 (w := x0.drew) hfx1 (Ne.symm hgd) z7
    replace q6 := cell_m1 (w := x0.drew) hfx1 (Ne.symm hgd) q6
    have HG2 := Lib.hid hbx1
    clear hbx1
    go_wp2_with fail
    go_region_held3 (fun w' => w'.cell? ⟨d, 2, none⟩ = some (.int .u32 s2.r.c)) ((first | exact z2 | exact cell_m1 (w := x1.drew) (by assumption) (Ne.symm hgd) z2))
      (first | (go_at_call 302; refine (be32_any x1.drew gb 8 24 24 22 _ s2.r.c (show Blk x1 gb _ _ from HG2.out) (by omega) (by simp [be32c])).mono ?_; rintro e x2 ⟨rfl, hbx2, hfx2⟩))
    replace z3 := cell_m1 (w := x1.drew) hfx2 (Ne.symm hgd) z3
    replace z4 := cell_m1 (w := x1.drew) hfx2 (Ne.symm hgd) z4
    replace z5 := cell_m1 (w := x1.drew) hfx2 (Ne.symm hgd) z5
    replace z6 := cell_m1 (w := x1.drew) hfx2 (Ne.symm hgd) z6
    replace z7 := cell_m1 (w := x1.drew) hfx2 (Ne.symm hgd) z7
    replace q6 := cell_m1 (w := x1.drew) hfx2 (Ne.symm hgd) q6
    have HG3 := Lib.hid hbx2
    clear hbx2
    go_wp2_with fail
    go_region_held3 (fun w' => w'.cell? ⟨d, 3, none⟩ = some (.int .u32 s2.r.d)) ((first | exact z3 | exact cell_m1 (w := x2.drew) (by assumption) (Ne.symm hgd) z3))
      (first | (go_at_call 302; refine (be32_any x2.drew gb 12 20 20 22 _ s2.r.d (show Blk x2 gb _ _ from HG3.out) (by omega) (by simp [be32c])).mono ?_; rintro e x3 ⟨rfl, hbx3, hfx3⟩))
    replace z4 := cell_m1 (w := x2.drew) hfx3 (Ne.symm hgd) z4
    replace z5 := cell_m1 (w := x2.drew) hfx3 (Ne.symm hgd) z5
    replace z6 := cell_m1 (w := x2.drew) hfx3 (Ne.symm hgd) z6
    replace z7 := cell_m1 (w := x2.drew) hfx3 (Ne.symm hgd) z7
    replace q6 := cell_m1 (w := x2.drew) hfx3 (Ne.symm hgd) q6
    have HG4 := Lib.hid hbx3
    clear hbx3
    go_wp2_with fail
    go_region_held3 (fun w' => w'.cell? ⟨d, 4, none⟩ = some (.int .u32 s2.r.e)) ((first | exact z4 | exact cell_m1 (w := x3.drew) (by assumption) (Ne.symm hgd) z4))
      (first | (go_at_call 302; refine (be32_any x3.drew gb 16 16 16 22 _ s2.r.e (show Blk x3 gb _ _ from HG4.out) (by omega) (by simp [be32c])).mono ?_; rintro e x4 ⟨rfl, hbx4, hfx4⟩))
    replace z5 := cell_m1 (w := x3.drew) hfx4 (Ne.symm hgd) z5
    replace z6 := cell_m1 (w := x3.drew) hfx4 (Ne.symm hgd) z6
    replace z7 := cell_m1 (w := x3.drew) hfx4 (Ne.symm hgd) z7
    replace q6 := cell_m1 (w := x3.drew) hfx4 (Ne.symm hgd) q6
    have HG5 := Lib.hid hbx4
    clear hbx4
    go_wp2_with fail
    go_region_held3 (fun w' => w'.cell? ⟨d, 5, none⟩ = some (.int .u32 s2.r.f)) ((first | exact z5 | exact cell_m1 (w := x4.drew) (by assumption) (Ne.symm hgd) z5))
      (first | (go_at_call 302; refine (be32_any x4.drew gb 20 12 12 22 _ s2.r.f (show Blk x4 gb _ _ from HG5.out) (by omega) (by simp [be32c])).mono ?_; rintro e x5 ⟨rfl, hbx5, hfx5⟩))
    replace z6 := cell_m1 (w := x4.drew) hfx5 (Ne.symm hgd) z6
    replace z7 := cell_m1 (w := x4.drew) hfx5 (Ne.symm hgd) z7
    replace q6 := cell_m1 (w := x4.drew) hfx5 (Ne.symm hgd) q6
    have HG6 := Lib.hid hbx5
    clear hbx5
    go_wp2_with fail
    go_region_held3 (fun w' => w'.cell? ⟨d, 6, none⟩ = some (.int .u32 s2.r.g)) ((first | exact z6 | exact cell_m1 (w := x5.drew) (by assumption) (Ne.symm hgd) z6))
      (first | (go_at_call 302; refine (be32_any x5.drew gb 24 8 8 22 _ s2.r.g (show Blk x5 gb _ _ from HG6.out) (by omega) (by simp [be32c])).mono ?_; rintro e x6 ⟨rfl, hbx6, hfx6⟩))
    replace z7 := cell_m1 (w := x5.drew) hfx6 (Ne.symm hgd) z7
    replace q6 := cell_m1 (w := x5.drew) hfx6 (Ne.symm hgd) q6
    have HG7 := Lib.hid hbx6
    clear hbx6
    go_wp2_with fail
    go_region_held3 (fun w' => w'.cell? ⟨d, 7, none⟩ = some (.int .u32 s2.r.h)) ((first | exact z7 | exact cell_m1 (w := x6.drew) (by assumption) (Ne.symm hgd) z7))
      (first | (go_at_call 302; refine (be32_any x6.drew gb 28 4 4 22 _ s2.r.h (show Blk x6 gb _ _ from HG7.out) (by omega) (by simp [be32c])).mono ?_; rintro e x7 ⟨rfl, hbx7, hfx7⟩))
    replace q6 := cell_m1 (w := x6.drew) hfx7 (Ne.symm hgd) q6
    rw [sum_cells] at hbx7
    have hC : (bv (sumB s2.r)).toArray.size = 32 := by simp [bv_length, sumB_length]
    have hone := bv_one (sumB s2.r)
    have gx : Fm (M1 gb) w6 x7 := ((((((((Fm.refl (M1 gb) w6).drew.trans hfx0).drew.trans hfx1).drew.trans hfx2).drew.trans hfx3).drew.trans hfx4).drew.trans hfx5).drew.trans hfx6).drew.trans hfx7
    have hrx := HR6.out.fm gx (show ¬ M1 gb rb by show ¬ rb = gb; omega)
    have hdx : Dg (x7.setRow rb (bv (sumB s2.r)).toArray) d s2 := ⟨((HD5.out.1.below HBEL6.out (by have := HD5.out.1.lt; omega)).fm gx (show ¬ M1 gb d by show ¬ d = gb; omega)).fm (cFm_setRow (g := rb) (Fm.refl _ _) _) (show ¬ M1 rb d by show ¬ d = rb; omega), HD5.out.2⟩
    have HDX := Lib.hid hdx
    have f1 : Fm (M1 d) w w1 := ⟨HB1.out.os, HB1.out.tape, HB1.out.output, HB1.out.size, fun k hk _ => HB1.out.block k (by omega)⟩
    have f2 : Fm (M1 d) w w2 := f1.trans' (M' := fun _ => False) ⟨HBEL2.out.os, HBEL2.out.tape, HBEL2.out.output, HBEL2.out.size, fun k hk _ => HBEL2.out.block k (by omega)⟩ (fun _ _ h => h.elim)
    have f3 := f2.trans' HF3.out (fun j hj h => by have : j = tb := h; omega)
    have f4 := f3.trans' HF4.out (fun j hj h => by have : j = tb := h; omega)
    have f5 := f4.trans HF5.out
    have f6 : Fm (M1 d) w w6 := f5.trans' (M' := fun _ => False) ⟨HBEL6.out.os, HBEL6.out.tape, HBEL6.out.output, HBEL6.out.size, fun k hk _ => HBEL6.out.block k (by omega)⟩ (fun _ _ h => h.elim)
    have f7 := f6.trans' gx (fun j hj h => by have : j = gb := h; omega)
    have f8 : Fm (M1 d) w (x7.setRow rb (bv (sumB s2.r)).toArray) := f7.trans' (cFm_setRow (g := rb) (Fm.refl _ _) _) (fun j hj h => by have : j = rb := h; omega)
    have hrw := cBlk_setRow hrx (bv (sumB s2.r)).toArray
    have hld := load_at32 x7 gb _ hbx7 hC
    have hst := store_at32 x7 rb _ (bv (sumB s2.r)).toArray hrx (by simp) hC hone
    have hlv := load_row32 (x7.setRow rb (bv (sumB s2.r)).toArray) rb _ hrw hC
    have F8 := Lib.hid f8
    have hout : s.out kc = sumB s2.r := by
      unfold Sh.out
      rw [htd, hs2]
    generalize hCe : (bv (sumB s2.r)).toArray = C at *
    clear hdx gx hrx f1 f2 f3 f4 f5 f6 f7 f8 hrw hbx7
    go_wp2_with (refine wpList_load 22 (.tmp 7) rfl rfl (.agg C) (exec_load 22 (.tmp 7) rfl rfl hld) ?_; refine Stop.mk ?_)
    refine Stop.go ?_
    refine wpList_skip rfl rfl (exec_store 22 (.tmp 2) (.tmp 103) rfl rfl rfl hst) ?_
    go_wp2
    refine bodyPost_ret (v := .agg C) ?_ rfl ?_
    · exact results_cell rfl _ _ _ rb _ rfl hlv
    · exact ⟨by rw [hout, hCe], ⟨_, HDX.out⟩, F8.out⟩
  · have i1 : ¬ (s.len : Int) % 64 < 56 := by omega
    have i2 : 120 - (s.len : Int) % 64 = (t : Int) := by
      rw [← htd]
      unfold padT
      rw [if_neg h56]
      omega
    go_wp2_with fail
    refine H8.out.mono ?_
    rintro e w4 ⟨rfl, hb4, hf4⟩
    have hd4 := HD3.out.fm hf4 (show ¬ d = tb from Ne.symm hne)
    have hr4 := HR3.out.fm hf4 (show ¬ rb = tb by omega)
    have hk4 : KT kc w4 := (HK2.out.fm HF3.out (by omega)).fm hf4 (by omega)
    have hpl := padB_length t (IntKind.u64.wrap ((s.len : Int) * 8)) t1
    have hc4 : Cells w4 (some ⟨tb, 0, none⟩) (t + 8) (bv (padB t (IntKind.u64.wrap ((s.len : Int) * 8)))) := ⟨by rw [bv_length, hpl], fun _ => ⟨tb, 0, rfl, fun j u hj => by
      have hjl := (List.getElem?_eq_some_iff.1 hj).1
      rw [bv_length, hpl] at hjl
      rw [Nat.zero_add, hb4.cell, pad_cells t t1 t64 _ j hjl]
      exact hj⟩⟩
    have HWR := Lib.hid (write_any kc w4 d (t + 8) 72 _ _ s ⟨hd4, HX.out⟩ (by omega) hlen hk4 hG hc4 (fun b o e => by injection e with e; injection e with e1 e2; omega) (by omega) (by omega))
    have HR4 := Lib.hid hr4
    clear hb4 hd4 hr4 hk4 hc4
    go_wp2_with fail
    refine HWR.out.mono ?_
    rintro e w5 ⟨rfl, hd5, hf5⟩
    have hn5 : (s.feed kc (padB t (IntKind.u64.wrap ((s.len : Int) * 8)))).nx = 0 := by
      rw [feed_nx kc s _ (by omega), hpl]
      omega
    have x5 := (hd5.1.cell 72).trans (Sh.cell_nx hd5.2)
    rw [hn5] at x5
    obtain ⟨s2, hs2⟩ : ∃ s2, s.feed kc (padB t (IntKind.u64.wrap ((s.len : Int) * 8))) = s2 := ⟨_, rfl⟩
    rw [hs2] at hd5
    have HD5 := Lib.hid hd5
    have HR5 := Lib.hid (HR4.out.fm hf5 (show ¬ rb = d by omega))
    clear hd5 HWR HR4
    go_wp2_with (refine wpList_alloc 22 rfl rfl (Array.replicate 32 (.int .u8 0)) (by kernel_rfl) ?_; refine Stop.mk ?_)
    refine Stop.go ?_
    have hbg := Blk.new w5 22 (Array.replicate 32 (Value.int .u8 0))
    have hbel6 := (Below.refl w5.heap.size w5).alloc (Nat.le_refl _) (.cells (Array.replicate 32 (Value.int .u8 0)) 22)
    have hd6 := HD5.out.1.below hbel6 HD5.out.1.lt
    have hr6 := HR5.out.below hbel6 HR5.out.lt
    have hdl5 := HD5.out.1.lt
    have hrl5 := HR5.out.lt
    have HF5 := Lib.hid hf5
    have HBEL6 := Lib.hid hbel6
    have HF4 := Lib.hid hf4
    generalize hgb : w5.heap.size = gb at *
    generalize w5.alloc (.cells (Array.replicate 32 (Value.int .u8 0)) 22) = w6 at *
    have hgd : gb ≠ d := by omega
    have q6 := (hd6.cell 74).trans (Sh.cell_is HD5.out.2)
    have z0 := hd6.cell 0
    change _ = some (Value.int .u32 s2.r.a) at z0
    have z1 := hd6.cell 1
    change _ = some (Value.int .u32 s2.r.b) at z1
    have z2 := hd6.cell 2
    change _ = some (Value.int .u32 s2.r.c) at z2
    have z3 := hd6.cell 3
    change _ = some (Value.int .u32 s2.r.d) at z3
    have z4 := hd6.cell 4
    change _ = some (Value.int .u32 s2.r.e) at z4
    have z5 := hd6.cell 5
    change _ = some (Value.int .u32 s2.r.f) at z5
    have z6 := hd6.cell 6
    change _ = some (Value.int .u32 s2.r.g) at z6
    have z7 := hd6.cell 7
    change _ = some (Value.int .u32 s2.r.h) at z7
    have HR6 := Lib.hid hr6
    have HD6 := Lib.hid hd6
    clear hd6 hr6
    have HG0 := Lib.hid hbg
    clear hbg
    go_wp2_with fail
    go_region_held3 (fun w' => w'.cell? ⟨d, 0, none⟩ = some (.int .u32 s2.r.a)) ((first | exact z0 | exact cell_m1 (w := w6.drew) (by assumption) (Ne.symm hgd) z0))
      (first | (go_at_call 302; refine (be32_any w6.drew gb 0 32 32 22 _ s2.r.a (show Blk w6 gb _ _ from HG0.out) (by omega) (by simp )).mono ?_; rintro e x0 ⟨rfl, hbx0, hfx0⟩))
    replace z1 := cell_m1 (w := w6.drew) hfx0 (Ne.symm hgd) z1
    replace z2 := cell_m1 (w := w6.drew) hfx0 (Ne.symm hgd) z2
    replace z3 := cell_m1 (w := w6.drew) hfx0 (Ne.symm hgd) z3
    replace z4 := cell_m1 (w := w6.drew) hfx0 (Ne.symm hgd) z4
    replace z5 := cell_m1 (w := w6.drew) hfx0 (Ne.symm hgd) z5
    replace z6 := cell_m1 (w := w6.drew) hfx0 (Ne.symm hgd) z6
    replace z7 := cell_m1 (w := w6.drew) hfx0 (Ne.symm hgd) z7
    replace q6 := cell_m1 (w := w6.drew) hfx0 (Ne.symm hgd) q6
    have HG1 := Lib.hid hbx0
    clear hbx0
    go_wp2_with fail
    go_region_held3 (fun w' => w'.cell? ⟨d, 1, none⟩ = some (.int .u32 s2.r.b)) ((first | exact z1 | exact cell_m1 (w := x0.drew) (by assumption) (Ne.symm hgd) z1))
      (first | (go_at_call 302; refine (be32_any x0.drew gb 4 28 28 22 _ s2.r.b (show Blk x0 gb _ _ from HG1.out) (by omega) (by simp [be32c])).mono ?_; rintro e x1 ⟨rfl, hbx1, hfx1⟩))
    replace z2 := cell_m1 (w := x0.drew) hfx1 (Ne.symm hgd) z2
    replace z3 := cell_m1 (w := x0.drew) hfx1 (Ne.symm hgd) z3
    replace z4 := cell_m1 (w := x0.drew) hfx1 (Ne.symm hgd) z4
    replace z5 := cell_m1 (w := x0.drew) hfx1 (Ne.symm hgd) z5
    replace z6 := cell_m1 (w := x0.drew) hfx1 (Ne.symm hgd) z6
    replace z7 := cell_m1 (w := x0.drew) hfx1 (Ne.symm hgd) z7
    replace q6 := cell_m1 (w := x0.drew) hfx1 (Ne.symm hgd) q6
    have HG2 := Lib.hid hbx1
    clear hbx1
    go_wp2_with fail
    go_region_held3 (fun w' => w'.cell? ⟨d, 2, none⟩ = some (.int .u32 s2.r.c)) ((first | exact z2 | exact cell_m1 (w := x1.drew) (by assumption) (Ne.symm hgd) z2))
      (first | (go_at_call 302; refine (be32_any x1.drew gb 8 24 24 22 _ s2.r.c (show Blk x1 gb _ _ from HG2.out) (by omega) (by simp [be32c])).mono ?_; rintro e x2 ⟨rfl, hbx2, hfx2⟩))
    replace z3 := cell_m1 (w := x1.drew) hfx2 (Ne.symm hgd) z3
    replace z4 := cell_m1 (w := x1.drew) hfx2 (Ne.symm hgd) z4
    replace z5 := cell_m1 (w := x1.drew) hfx2 (Ne.symm hgd) z5
    replace z6 := cell_m1 (w := x1.drew) hfx2 (Ne.symm hgd) z6
    replace z7 := cell_m1 (w := x1.drew) hfx2 (Ne.symm hgd) z7
    replace q6 := cell_m1 (w := x1.drew) hfx2 (Ne.symm hgd) q6
    have HG3 := Lib.hid hbx2
    clear hbx2
    go_wp2_with fail
    go_region_held3 (fun w' => w'.cell? ⟨d, 3, none⟩ = some (.int .u32 s2.r.d)) ((first | exact z3 | exact cell_m1 (w := x2.drew) (by assumption) (Ne.symm hgd) z3))
      (first | (go_at_call 302; refine (be32_any x2.drew gb 12 20 20 22 _ s2.r.d (show Blk x2 gb _ _ from HG3.out) (by omega) (by simp [be32c])).mono ?_; rintro e x3 ⟨rfl, hbx3, hfx3⟩))
    replace z4 := cell_m1 (w := x2.drew) hfx3 (Ne.symm hgd) z4
    replace z5 := cell_m1 (w := x2.drew) hfx3 (Ne.symm hgd) z5
    replace z6 := cell_m1 (w := x2.drew) hfx3 (Ne.symm hgd) z6
    replace z7 := cell_m1 (w := x2.drew) hfx3 (Ne.symm hgd) z7
    replace q6 := cell_m1 (w := x2.drew) hfx3 (Ne.symm hgd) q6
    have HG4 := Lib.hid hbx3
    clear hbx3
    go_wp2_with fail
    go_region_held3 (fun w' => w'.cell? ⟨d, 4, none⟩ = some (.int .u32 s2.r.e)) ((first | exact z4 | exact cell_m1 (w := x3.drew) (by assumption) (Ne.symm hgd) z4))
      (first | (go_at_call 302; refine (be32_any x3.drew gb 16 16 16 22 _ s2.r.e (show Blk x3 gb _ _ from HG4.out) (by omega) (by simp [be32c])).mono ?_; rintro e x4 ⟨rfl, hbx4, hfx4⟩))
    replace z5 := cell_m1 (w := x3.drew) hfx4 (Ne.symm hgd) z5
    replace z6 := cell_m1 (w := x3.drew) hfx4 (Ne.symm hgd) z6
    replace z7 := cell_m1 (w := x3.drew) hfx4 (Ne.symm hgd) z7
    replace q6 := cell_m1 (w := x3.drew) hfx4 (Ne.symm hgd) q6
    have HG5 := Lib.hid hbx4
    clear hbx4
    go_wp2_with fail
    go_region_held3 (fun w' => w'.cell? ⟨d, 5, none⟩ = some (.int .u32 s2.r.f)) ((first | exact z5 | exact cell_m1 (w := x4.drew) (by assumption) (Ne.symm hgd) z5))
      (first | (go_at_call 302; refine (be32_any x4.drew gb 20 12 12 22 _ s2.r.f (show Blk x4 gb _ _ from HG5.out) (by omega) (by simp [be32c])).mono ?_; rintro e x5 ⟨rfl, hbx5, hfx5⟩))
    replace z6 := cell_m1 (w := x4.drew) hfx5 (Ne.symm hgd) z6
    replace z7 := cell_m1 (w := x4.drew) hfx5 (Ne.symm hgd) z7
    replace q6 := cell_m1 (w := x4.drew) hfx5 (Ne.symm hgd) q6
    have HG6 := Lib.hid hbx5
    clear hbx5
    go_wp2_with fail
    go_region_held3 (fun w' => w'.cell? ⟨d, 6, none⟩ = some (.int .u32 s2.r.g)) ((first | exact z6 | exact cell_m1 (w := x5.drew) (by assumption) (Ne.symm hgd) z6))
      (first | (go_at_call 302; refine (be32_any x5.drew gb 24 8 8 22 _ s2.r.g (show Blk x5 gb _ _ from HG6.out) (by omega) (by simp [be32c])).mono ?_; rintro e x6 ⟨rfl, hbx6, hfx6⟩))
    replace z7 := cell_m1 (w := x5.drew) hfx6 (Ne.symm hgd) z7
    replace q6 := cell_m1 (w := x5.drew) hfx6 (Ne.symm hgd) q6
    have HG7 := Lib.hid hbx6
    clear hbx6
    go_wp2_with fail
    go_region_held3 (fun w' => w'.cell? ⟨d, 7, none⟩ = some (.int .u32 s2.r.h)) ((first | exact z7 | exact cell_m1 (w := x6.drew) (by assumption) (Ne.symm hgd) z7))
      (first | (go_at_call 302; refine (be32_any x6.drew gb 28 4 4 22 _ s2.r.h (show Blk x6 gb _ _ from HG7.out) (by omega) (by simp [be32c])).mono ?_; rintro e x7 ⟨rfl, hbx7, hfx7⟩))
    replace q6 := cell_m1 (w := x6.drew) hfx7 (Ne.symm hgd) q6
    rw [sum_cells] at hbx7
    have hC : (bv (sumB s2.r)).toArray.size = 32 := by simp [bv_length, sumB_length]
    have hone := bv_one (sumB s2.r)
    have gx : Fm (M1 gb) w6 x7 := ((((((((Fm.refl (M1 gb) w6).drew.trans hfx0).drew.trans hfx1).drew.trans hfx2).drew.trans hfx3).drew.trans hfx4).drew.trans hfx5).drew.trans hfx6).drew.trans hfx7
    have hrx := HR6.out.fm gx (show ¬ M1 gb rb by show ¬ rb = gb; omega)
    have hdx : Dg (x7.setRow rb (bv (sumB s2.r)).toArray) d s2 := ⟨((HD5.out.1.below HBEL6.out (by have := HD5.out.1.lt; omega)).fm gx (show ¬ M1 gb d by show ¬ d = gb; omega)).fm (cFm_setRow (g := rb) (Fm.refl _ _) _) (show ¬ M1 rb d by show ¬ d = rb; omega), HD5.out.2⟩
    have HDX := Lib.hid hdx
    have f1 : Fm (M1 d) w w1 := ⟨HB1.out.os, HB1.out.tape, HB1.out.output, HB1.out.size, fun k hk _ => HB1.out.block k (by omega)⟩
    have f2 : Fm (M1 d) w w2 := f1.trans' (M' := fun _ => False) ⟨HBEL2.out.os, HBEL2.out.tape, HBEL2.out.output, HBEL2.out.size, fun k hk _ => HBEL2.out.block k (by omega)⟩ (fun _ _ h => h.elim)
    have f3 := f2.trans' HF3.out (fun j hj h => by have : j = tb := h; omega)
    have f4 := f3.trans' HF4.out (fun j hj h => by have : j = tb := h; omega)
    have f5 := f4.trans HF5.out
    have f6 : Fm (M1 d) w w6 := f5.trans' (M' := fun _ => False) ⟨HBEL6.out.os, HBEL6.out.tape, HBEL6.out.output, HBEL6.out.size, fun k hk _ => HBEL6.out.block k (by omega)⟩ (fun _ _ h => h.elim)
    have f7 := f6.trans' gx (fun j hj h => by have : j = gb := h; omega)
    have f8 : Fm (M1 d) w (x7.setRow rb (bv (sumB s2.r)).toArray) := f7.trans' (cFm_setRow (g := rb) (Fm.refl _ _) _) (fun j hj h => by have : j = rb := h; omega)
    have hrw := cBlk_setRow hrx (bv (sumB s2.r)).toArray
    have hld := load_at32 x7 gb _ hbx7 hC
    have hst := store_at32 x7 rb _ (bv (sumB s2.r)).toArray hrx (by simp) hC hone
    have hlv := load_row32 (x7.setRow rb (bv (sumB s2.r)).toArray) rb _ hrw hC
    have F8 := Lib.hid f8
    have hout : s.out kc = sumB s2.r := by
      unfold Sh.out
      rw [htd, hs2]
    generalize hCe : (bv (sumB s2.r)).toArray = C at *
    clear hdx gx hrx f1 f2 f3 f4 f5 f6 f7 f8 hrw hbx7
    go_wp2_with (refine wpList_load 22 (.tmp 7) rfl rfl (.agg C) (exec_load 22 (.tmp 7) rfl rfl hld) ?_; refine Stop.mk ?_)
    refine Stop.go ?_
    refine wpList_skip rfl rfl (exec_store 22 (.tmp 2) (.tmp 103) rfl rfl rfl hst) ?_
    go_wp2
    refine bodyPost_ret (v := .agg C) ?_ rfl ?_
    · exact results_cell rfl _ _ _ rb _ rfl hlv
    · exact ⟨by rw [hout, hCe], ⟨_, HDX.out⟩, F8.out⟩
end Go.Proofs.YtkgihpebghmnbaaGreatDoor
