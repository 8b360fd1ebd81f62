/- numbers laid as bytes, the least first. writeUint32 onto a hash. A transaction's parts written onto a hash: numbers, bytes, an input, an output. A number of variable length, bytes behind their length, an input and an output written onto a hash. Bytes behind their length, an input and an output written onto a hash. -/
import Derived.Test.YtkgihpebghmnbaaGreatDoorG22
import Derived.StillTailTactics
namespace Go.Proofs.YtkgihpebghmnbaaGreatDoor
open Go.RowKit Go.Proofs

set_option maxRecDepth 100000

/-- The cells, 2 bytes laid over them. -/
def le16c (cs : Array Value) (o : Nat) (v : Int) : Array Value := ((cs.setIfInBounds (o) (.int .u8 (v % 256))).setIfInBounds (o + 1) (.int .u8 (v / 256 % 256)))

set_option maxHeartbeats 2000000 in
theorem le16_any (w : World) (b o n c : Nat) (t : TypeId) (cs : Array Value) (v : Int) (hb : Blk w b t cs) (hn : 2 ≤ n) (hs : o + 2 ≤ cs.size) :
    Calls Tryz.prog 185 #[.agg #[], .slice (some ⟨b, o, none⟩) n c, .int .u16 v] w fun e w' => e = .returned (.tuple #[]) ∧ Blk w' b t (le16c cs o v) ∧ Fm (M1 b) w w' := by
  have hbx := hb.alloc (.cells #[] 156)
  have i0 : (0 : Int) < n := by omega
  have i1 : (1 : Int) < n := by omega
  obtain ⟨u0, e0⟩ : ∃ u, cs[o]'(by omega) = u := ⟨_, rfl⟩
  obtain ⟨u1, e1⟩ : ∃ u, cs[o + 1]'(by omega) = u := ⟨_, rfl⟩
  have c0 : (w.alloc (.cells #[] 156)).cell? ⟨b, o, none⟩ = some u0 := by rw [hbx.cell]; exact (Array.getElem?_eq_getElem _).trans (congrArg some e0)
  have c1 : (w.alloc (.cells #[] 156)).cell? ⟨b, o + 1, none⟩ = some u1 := by rw [hbx.cell]; exact (Array.getElem?_eq_getElem _).trans (congrArg some e1)
  have hf := hbx.frozen
  have HB := Lib.hid hbx
  clear hb hbx e0 e1
  go_enter Tryz.func185, Tryz.ntmps185
  go_wp2
  go_end0
  refine ⟨rfl, ?_, ?_⟩
  · exact (HB.out.set_ (o) _).set_ (o + 1) _
  · exact (((Fm.refl _ _).alloc _).set1 (o) _).set1 (o + 1) _

/-- The cells, 4 bytes laid over them. -/
def le32c (cs : Array Value) (o : Nat) (v : Int) : Array Value := ((((cs.setIfInBounds (o) (.int .u8 (v % 256))).setIfInBounds (o + 1) (.int .u8 (v / 256 % 256))).setIfInBounds (o + 2) (.int .u8 (v / 65536 % 256))).setIfInBounds (o + 3) (.int .u8 (v / 16777216 % 256)))

set_option maxHeartbeats 2000000 in
theorem le32_any (w : World) (b o n c : Nat) (t : TypeId) (cs : Array Value) (v : Int) (hb : Blk w b t cs) (hn : 4 ≤ n) (hs : o + 4 ≤ cs.size) :
    Calls Tryz.prog 74 #[.agg #[], .slice (some ⟨b, o, none⟩) n c, .int .u32 v] w fun e w' => e = .returned (.tuple #[]) ∧ Blk w' b t (le32c cs o v) ∧ Fm (M1 b) w w' := by
  have hbx := hb.alloc (.cells #[] 156)
  have i0 : (0 : Int) < n := by omega
  have i1 : (1 : Int) < n := by omega
  have i2 : (2 : Int) < n := by omega
  have i3 : (3 : Int) < n := by omega
  obtain ⟨u0, e0⟩ : ∃ u, cs[o]'(by omega) = u := ⟨_, rfl⟩
  obtain ⟨u1, e1⟩ : ∃ u, cs[o + 1]'(by omega) = u := ⟨_, rfl⟩
  obtain ⟨u2, e2⟩ : ∃ u, cs[o + 2]'(by omega) = u := ⟨_, rfl⟩
  obtain ⟨u3, e3⟩ : ∃ u, cs[o + 3]'(by omega) = u := ⟨_, rfl⟩
  have c0 : (w.alloc (.cells #[] 156)).cell? ⟨b, o, none⟩ = some u0 := by rw [hbx.cell]; exact (Array.getElem?_eq_getElem _).trans (congrArg some e0)
  have c1 : (w.alloc (.cells #[] 156)).cell? ⟨b, o + 1, none⟩ = some u1 := by rw [hbx.cell]; exact (Array.getElem?_eq_getElem _).trans (congrArg some e1)
  have c2 : (w.alloc (.cells #[] 156)).cell? ⟨b, o + 2, none⟩ = some u2 := by rw [hbx.cell]; exact (Array.getElem?_eq_getElem _).trans (congrArg some e2)
  have c3 : (w.alloc (.cells #[] 156)).cell? ⟨b, o + 3, none⟩ = some u3 := by rw [hbx.cell]; exact (Array.getElem?_eq_getElem _).trans (congrArg some e3)
  have hf := hbx.frozen
  have HB := Lib.hid hbx
  clear hb hbx e0 e1 e2 e3
  go_enter Tryz.func74, Tryz.ntmps74
  go_wp2
  go_end0
  refine ⟨rfl, ?_, ?_⟩
  · exact (((HB.out.set_ (o) _).set_ (o + 1) _).set_ (o + 2) _).set_ (o + 3) _
  · exact (((((Fm.refl _ _).alloc _).set1 (o) _).set1 (o + 1) _).set1 (o + 2) _).set1 (o + 3) _

/-- The cells, 8 bytes laid over them. -/
def le64c (cs : Array Value) (o : Nat) (v : Int) : Array Value := ((((((((cs.setIfInBounds (o) (.int .u8 (v % 256))).setIfInBounds (o + 1) (.int .u8 (v / 256 % 256))).setIfInBounds (o + 2) (.int .u8 (v / 65536 % 256))).setIfInBounds (o + 3) (.int .u8 (v / 16777216 % 256))).setIfInBounds (o + 4) (.int .u8 (v / 4294967296 % 256))).setIfInBounds (o + 5) (.int .u8 (v / 1099511627776 % 256))).setIfInBounds (o + 6) (.int .u8 (v / 281474976710656 % 256))).setIfInBounds (o + 7) (.int .u8 (v / 72057594037927936 % 256)))

set_option maxHeartbeats 2000000 in
theorem le64_any (w : World) (b o n c : Nat) (t : TypeId) (cs : Array Value) (v : Int) (hb : Blk w b t cs) (hn : 8 ≤ n) (hs : o + 8 ≤ cs.size) :
    Calls Tryz.prog 224 #[.agg #[], .slice (some ⟨b, o, none⟩) n c, .int .u64 v] w fun e w' => e = .returned (.tuple #[]) ∧ Blk w' b t (le64c cs o v) ∧ Fm (M1 b) w w' := by
  have hbx := hb.alloc (.cells #[] 156)
  have i0 : (0 : Int) < n := by omega
  have i1 : (1 : Int) < n := by omega
  have i2 : (2 : Int) < n := by omega
  have i3 : (3 : Int) < n := by omega
  have i4 : (4 : Int) < n := by omega
  have i5 : (5 : Int) < n := by omega
  have i6 : (6 : Int) < n := by omega
  have i7 : (7 : Int) < n := by omega
  obtain ⟨u0, e0⟩ : ∃ u, cs[o]'(by omega) = u := ⟨_, rfl⟩
  obtain ⟨u1, e1⟩ : ∃ u, cs[o + 1]'(by omega) = u := ⟨_, rfl⟩
  obtain ⟨u2, e2⟩ : ∃ u, cs[o + 2]'(by omega) = u := ⟨_, rfl⟩
  obtain ⟨u3, e3⟩ : ∃ u, cs[o + 3]'(by omega) = u := ⟨_, rfl⟩
  obtain ⟨u4, e4⟩ : ∃ u, cs[o + 4]'(by omega) = u := ⟨_, rfl⟩
  obtain ⟨u5, e5⟩ : ∃ u, cs[o + 5]'(by omega) = u := ⟨_, rfl⟩
  obtain ⟨u6, e6⟩ : ∃ u, cs[o + 6]'(by omega) = u := ⟨_, rfl⟩
  obtain ⟨u7, e7⟩ : ∃ u, cs[o + 7]'(by omega) = u := ⟨_, rfl⟩
  have c0 : (w.alloc (.cells #[] 156)).cell? ⟨b, o, none⟩ = some u0 := by rw [hbx.cell]; exact (Array.getElem?_eq_getElem _).trans (congrArg some e0)
  have c1 : (w.alloc (.cells #[] 156)).cell? ⟨b, o + 1, none⟩ = some u1 := by rw [hbx.cell]; exact (Array.getElem?_eq_getElem _).trans (congrArg some e1)
  have c2 : (w.alloc (.cells #[] 156)).cell? ⟨b, o + 2, none⟩ = some u2 := by rw [hbx.cell]; exact (Array.getElem?_eq_getElem _).trans (congrArg some e2)
  have c3 : (w.alloc (.cells #[] 156)).cell? ⟨b, o + 3, none⟩ = some u3 := by rw [hbx.cell]; exact (Array.getElem?_eq_getElem _).trans (congrArg some e3)
  have c4 : (w.alloc (.cells #[] 156)).cell? ⟨b, o + 4, none⟩ = some u4 := by rw [hbx.cell]; exact (Array.getElem?_eq_getElem _).trans (congrArg some e4)
  have c5 : (w.alloc (.cells #[] 156)).cell? ⟨b, o + 5, none⟩ = some u5 := by rw [hbx.cell]; exact (Array.getElem?_eq_getElem _).trans (congrArg some e5)
  have c6 : (w.alloc (.cells #[] 156)).cell? ⟨b, o + 6, none⟩ = some u6 := by rw [hbx.cell]; exact (Array.getElem?_eq_getElem _).trans (congrArg some e6)
  have c7 : (w.alloc (.cells #[] 156)).cell? ⟨b, o + 7, none⟩ = some u7 := by rw [hbx.cell]; exact (Array.getElem?_eq_getElem _).trans (congrArg some e7)
  have hf := hbx.frozen
  have HB := Lib.hid hbx
  clear hb hbx e0 e1 e2 e3 e4 e5 e6 e7
  go_enter Tryz.func224, Tryz.ntmps224
  go_wp2
  go_end0
  refine ⟨rfl, ?_, ?_⟩
  · exact (((((((HB.out.set_ (o) _).set_ (o + 1) _).set_ (o + 2) _).set_ (o + 3) _).set_ (o + 4) _).set_ (o + 5) _).set_ (o + 6) _).set_ (o + 7) _
  · exact (((((((((Fm.refl _ _).alloc _).set1 (o) _).set1 (o + 1) _).set1 (o + 2) _).set1 (o + 3) _).set1 (o + 4) _).set1 (o + 5) _).set1 (o + 6) _).set1 (o + 7) _

end Go.Proofs.YtkgihpebghmnbaaGreatDoor

namespace Go.Proofs.YtkgihpebghmnbaaGreatDoor
open Go.RowKit Go.Proofs

set_option maxRecDepth 100000

theorem nilAhead_write (k d : Nat) (w : World) : (nilAhead (k + 1) 181 (.pointer (some ⟨d, 0, none⟩)) "Write").run Tryz.prog w = .ok (some false) w := by kernel_rfl

/-- One byte out of a number. -/
def by8 (x : Int) : UInt8 := UInt8.ofNat (x % 256).toNat
theorem by8_val (x : Int) : ((by8 x).toNat : Int) = x % 256 := by
  unfold by8
  have h1 : 0 ≤ x % 256 := Int.emod_nonneg _ (by decide)
  have h2 : x % 256 < 256 := Int.emod_lt_of_pos _ (by decide)
  have h3 : (x % 256).toNat < 256 := by omega
  rw [UInt8.toNat_ofNat']
  omega
/-- Numbers as bytes, the least first. -/
def le32b (x : Int) : List UInt8 := [by8 x, by8 (x / 256), by8 (x / 65536), by8 (x / 16777216)]
def le16b (x : Int) : List UInt8 := [by8 x, by8 (x / 256)]
def le64b (x : Int) : List UInt8 := [by8 x, by8 (x / 256), by8 (x / 65536), by8 (x / 16777216), by8 (x / 4294967296), by8 (x / 1099511627776), by8 (x / 281474976710656), by8 (x / 72057594037927936)]

/-- The table of the rounds' numbers lies where it lay. -/
theorem KT.frm {kc : Nat → Int} {w w' : World} {M : Nat → Prop} (h : KT kc w) (hf : Fm M w w') (hM : ¬ M 3) : KT kc w' := fun i hi => by
  have hc := h i hi
  rw [World.cell?_of_block (w := w) (hf.block _ (World.block_lt_of_cell? w _ hc) hM)]
  exact hc
theorem KT.below {kc : Nat → Int} {w w' : World} (h : KT kc w) (hb : Below w.heap.size w w') : KT kc w' := fun i hi => cell_keep hb (h i hi)
theorem KT.lt {kc : Nat → Int} {w : World} (h : KT kc w) : 3 < w.heap.size := World.block_lt_of_cell? w _ (h 0 (by omega))
theorem Dg.fm {w w' : World} {d : Nat} {s : Sh} {M : Nat → Prop} (h : Dg w d s) (hf : Fm M w w') (hM : ¬ M d) : Dg w' d s := ⟨h.1.fm hf hM, h.2⟩
theorem Dg.below {w w' : World} {d : Nat} {s : Sh} (h : Dg w d s) (hb : Below w.heap.size w w') : Dg w' d s := ⟨h.1.below hb h.1.lt, h.2⟩

theorem le32c_new (x : Int) : le32c (Array.replicate 4 (.int .u8 0)) 0 x = (bv (le32b x)).toArray := by
  simp only [le32c, bv, le32b, by8_val, List.map_cons, List.map_nil]
  rfl

set_option maxHeartbeats 2000000 in
theorem wu32_any (kc : Nat → Int) (w : World) (d : Nat) (s : Sh) (x : Int) (hd : Dg w d s) (hs : ShOk s) (hk : KT kc w) (hG : 3 ≠ d) :
    Calls Tryz.prog 48 #[.iface 181 (.pointer (some ⟨d, 0, none⟩)), .int .u32 x] w fun e w' => e = .returned .nilIface ∧ Dg w' d (s.feed kc (le32b x)) ∧ Fm (M1 d) w w' := by
  have hna := nilAhead_write
  have hb1 := (Below.refl w.heap.size w).alloc (Nat.le_refl _) (.cells (Array.replicate 4 (.int .u8 0)) 165)
  have hg1 := Blk.new w 165 (Array.replicate 4 (.int .u8 0))
  have hd1 := hd.below hb1
  have hk1 := hk.below hb1
  have hdl := hd.1.lt
  have hkl := hk.lt
  have HB := Lib.hid hb1
  go_enter Tryz.func48, Tryz.ntmps48
  go_wp2_with (refine wpList_alloc 165 rfl rfl (Array.replicate 4 (.int .u8 0)) (by kernel_rfl) ?_; refine Stop.mk ?_)
  refine Stop.go ?_
  generalize hge : w.heap.size = g at *
  generalize hw1 : w.alloc (.cells (Array.replicate 4 (.int .u8 0)) 165) = w1 at *
  have HL := Lib.hid (le32_any w1.drew g 0 4 4 165 _ x (show Blk w1.drew g _ _ from hg1) (by omega) (by simp))
  have HD1 := Lib.hid hd1
  have HK1 := Lib.hid hk1
  clear hd hk hb1 hg1 hd1 hk1
  go_upto_region 2 with fail
  go_still_tail 3, (by kernel_rfl)
  change wpList _ _ _ _ _ w1.drew
  go_wp2_with fail
  refine HL.out.mono ?_
  rintro e w2 ⟨rfl, hg2, hf2⟩
  rw [le32c_new] at hg2
  have hd2 : Dg w2 d s := (show Dg w1.drew d s from HD1.out).fm hf2 (show ¬ d = g by omega)
  have hk2 : KT kc w2 := (show KT kc w1.drew from HK1.out).frm hf2 (show ¬ _ = g by omega)
  have HW := Lib.hid (write_any kc w2.drew d 4 4 (some ⟨g, 0, none⟩) (le32b x) s hd2 hs.nx64 hs.len hk2 hG (Cells.of_blk hg2 rfl) (fun b o e => by injection e with e; injection e with e1 e2; omega) (Nat.le_refl _) (by omega))
  have F2 := Lib.hid (show Fm (M1 d) w w2 from (Fm.of_below (M := M1 d) (show Below w.heap.size w w1.drew by rw [hge]; exact ⟨HB.out.os, HB.out.tape, HB.out.output, HB.out.size, HB.out.block⟩)).trans' hf2 (fun j hj (hm : j = g) => by omega))
  clear hf2 hg2 hd2 hk2 HL HD1 HK1
  go_upto_region 3 with fail
  go_region_held3 (fun _ => True) ((trivial)) ((refine HW.out.mono ?_; rintro e w3 ⟨rfl, hd3, hf3⟩))
  have HD3 := Lib.hid hd3
  have F3 := Lib.hid (F2.out.trans (Fm.drew (Fm.refl _ _) |>.trans hf3))
  clear hd3 hf3 HW
  go_wp2
  go_ret
  exact ⟨rfl, HD3.out, F3.out⟩
end Go.Proofs.YtkgihpebghmnbaaGreatDoor

namespace Go.Proofs.YtkgihpebghmnbaaGreatDoor
open Go.RowKit Go.Proofs

set_option maxRecDepth 100000

/-- What may turn while a hash is written through a buffer. -/
def Mb (d b : Nat) (k : Nat) : Prop := k = d ∨ k = b

/-- A hash that is written, and the buffer of eight bytes. -/
structure Wr (kc : Nat → Int) (w : World) (d b : Nat) (s : Sh) : Prop where
  dg : Dg w d s
  ok : ShOk s
  kt : KT kc w
  buf : ∃ C, Blk w b 5 C ∧ C.size = 8
  db : d ≠ b
  kd : 3 ≠ d
  kb : 3 ≠ b

section
variable {kc : Nat → Int} {w w' w'' : World} {d b : Nat} {s : Sh}
theorem Wr.drew (h : Wr kc w d b s) : Wr kc w.drew d b s := ⟨h.dg, h.ok, h.kt, h.buf, h.db, h.kd, h.kb⟩
theorem Wr.below (h : Wr kc w d b s) (k : Below w.heap.size w w') : Wr kc w' d b s := by
  obtain ⟨C, h1, h2⟩ := h.buf
  exact ⟨h.dg.below k, h.ok, h.kt.below k, ⟨C, h1.below k h1.lt, h2⟩, h.db, h.kd, h.kb⟩
theorem Fm.mb_d (h : Fm (M1 d) w w') : Fm (Mb d b) w w' := h.mono fun _ _ hm => .inl hm
theorem Fm.mb_b (h : Fm (M1 b) w w') : Fm (Mb d b) w w' := h.mono fun _ _ hm => .inr hm
theorem Fm.mb_cells {A : Option Addr} {n : Nat} {vs : List Value} (h : Fm (Mb d b) w w') (hc : Cells w A n vs) (hA : ∀ x o, A = some ⟨x, o, none⟩ → x ≠ d ∧ x ≠ b) : Cells w' A n vs :=
  hc.fm h fun x o e hm => by
    obtain ⟨h1, h2⟩ := hA x o e
    rcases hm with hm | hm
    · exact h1 hm
    · exact h2 hm
theorem Fm.mb_cell {x o : Nat} {u : Value} (h : Fm (Mb d b) w w') (hc : w.cell? ⟨x, o, none⟩ = some u) (h1 : x ≠ d) (h2 : x ≠ b) : w'.cell? ⟨x, o, none⟩ = some u := by
  rw [World.cell?_of_block (w := w) (h.block x (World.block_lt_of_cell? w _ hc) (fun hm => hm.elim h1 h2))]
  exact hc

theorem le32c_cells {C : Array Value} (x : Int) (hb : Blk w b 5 (le32c C 0 x)) (hC : C.size = 8) : Cells w (some ⟨b, 0, none⟩) 4 (bv (le32b x)) := by
  refine ⟨rfl, fun _ => ⟨b, 0, rfl, fun j u hu => ?_⟩⟩
  rw [Nat.zero_add, hb.cell]
  have hj : j < 4 := by have := (List.getElem?_eq_some_iff.1 hu).1; simpa [bv, le32b] using this
  match j, hj with
  | 0, _ | 1, _ | 2, _ | 3, _ => simp [bv, le32b, by8_val] at hu; subst hu; simp [le32c, hC]
theorem le64c_cells {C : Array Value} (x : Int) (hb : Blk w b 5 (le64c C 0 x)) (hC : C.size = 8) : Cells w (some ⟨b, 0, none⟩) 8 (bv (le64b x)) := by
  refine ⟨rfl, fun _ => ⟨b, 0, rfl, fun j u hu => ?_⟩⟩
  rw [Nat.zero_add, hb.cell]
  have hj : j < 8 := by have := (List.getElem?_eq_some_iff.1 hu).1; simpa [bv, le64b] using this
  match j, hj with
  | 0, _ | 1, _ | 2, _ | 3, _ | 4, _ | 5, _ | 6, _ | 7, _ => simp [bv, le64b, by8_val] at hu; subst hu; simp [le64c, hC]
end

/-- PutUint32 onto the buffer. -/
theorem put32_wr (kc : Nat → Int) (w : World) (d b c : Nat) (s : Sh) (x : Int) (h : Wr kc w d b s) :
    Calls Tryz.prog 74 #[.agg #[], .slice (some ⟨b, 0, none⟩) 4 c, .int .u32 x] w fun e w' => e = .returned (.tuple #[]) ∧ Wr kc w' d b s ∧ Cells w' (some ⟨b, 0, none⟩) 4 (bv (le32b x)) ∧ Fm (Mb d b) w w' := by
  obtain ⟨C, h1, h2⟩ := h.buf
  refine (le32_any w b 0 4 c _ C x h1 (by omega) (by omega)).mono ?_
  rintro e w' ⟨rfl, hb, hf⟩
  exact ⟨rfl, ⟨h.dg.fm hf h.db, h.ok, h.kt.frm hf h.kb, ⟨_, hb, by simp [le32c, h2]⟩, h.db, h.kd, h.kb⟩, le32c_cells x hb h2, hf.mb_b⟩
theorem put64_wr (kc : Nat → Int) (w : World) (d b c : Nat) (s : Sh) (x : Int) (h : Wr kc w d b s) :
    Calls Tryz.prog 224 #[.agg #[], .slice (some ⟨b, 0, none⟩) 8 c, .int .u64 x] w fun e w' => e = .returned (.tuple #[]) ∧ Wr kc w' d b s ∧ Cells w' (some ⟨b, 0, none⟩) 8 (bv (le64b x)) ∧ Fm (Mb d b) w w' := by
  obtain ⟨C, h1, h2⟩ := h.buf
  refine (le64_any w b 0 8 c _ C x h1 (by omega) (by omega)).mono ?_
  rintro e w' ⟨rfl, hb, hf⟩
  exact ⟨rfl, ⟨h.dg.fm hf h.db, h.ok, h.kt.frm hf h.kb, ⟨_, hb, by simp [le64c, h2]⟩, h.db, h.kd, h.kb⟩, le64c_cells x hb h2, hf.mb_b⟩

/-- Write of bytes that lie elsewhere, or in the buffer. -/
theorem write_wr (kc : Nat → Int) (w : World) (d b n c : Nat) (A : Option Addr) (bs : List UInt8) (s : Sh) (h : Wr kc w d b s) (hc : Cells w A n (bv bs)) (hA : ∀ x o, A = some ⟨x, o, none⟩ → x ≠ d) (hcc : n ≤ c) (hn : n ≤ 1000000) :
    Calls Tryz.prog 295 #[.pointer (some ⟨d, 0, none⟩), .slice A n c] w fun e w' => e = .returned (.tuple #[.int .i64 n, .nilIface]) ∧ Wr kc w' d b (s.feed kc bs) ∧ Fm (Mb d b) w w' := by
  obtain ⟨C, h1, h2⟩ := h.buf
  refine (write_any kc w d n c A bs s h.dg h.ok.nx64 h.ok.len h.kt h.kd hc hA hcc hn).mono ?_
  rintro e w' ⟨rfl, hd, hf⟩
  exact ⟨rfl, ⟨hd, h.ok.feed kc bs, h.kt.frm hf h.kd, ⟨C, h1.fm hf (fun e => h.db e.symm), h2⟩, h.db, h.kd, h.kb⟩, hf.mb_d⟩

set_option maxHeartbeats 2000000 in
theorem outPoint_wr (kc : Nat → Int) (w : World) (d b p o : Nat) (s : Sh) (hash : List UInt8) (idx : Int) (x1 x2 : Value) (h : Wr kc w d b s) (hh : Cells w (some ⟨p, o, none⟩) 32 (bv hash)) (hi : w.cell? ⟨p, o + 32, none⟩ = some (.int .u32 idx)) (hpd : p ≠ d) (hpb : p ≠ b) :
    Calls Tryz.prog 225 #[.iface 181 (.pointer (some ⟨d, 0, none⟩)), x1, x2, .pointer (some ⟨p, o, none⟩), .slice (some ⟨b, 0, none⟩) 8 8] w fun e w' =>
      e = .returned .nilIface ∧ Wr kc w' d b ((s.feed kc hash).feed kc (le32b idx)) ∧ Fm (Mb d b) w w' := by
  have hna := nilAhead_write
  have HW := Lib.hid (write_wr kc w.drew d b 32 32 (some ⟨p, o, none⟩) hash s h.drew hh (fun x o e => by injection e with e; injection e with e1 e2; omega) (Nat.le_refl _) (by omega))
  have HI := Lib.hid hi
  clear h hh hi
  go_enter Tryz.func225, Tryz.ntmps225
  go_upto_region 1 with fail
  go_region_held3 (fun _ => True) ((trivial)) ((refine HW.out.mono ?_; rintro e w1 ⟨rfl, h1, f1⟩))
  have i1 := f1.mb_cell HI.out hpd hpb
  have HP := Lib.hid (put32_wr kc w1.drew d b 8 _ idx h1.drew)
  have F1 := Lib.hid f1
  clear h1 f1 HW
  go_upto_region 4 with fail
  go_still_tail 7, (by kernel_rfl)
  change wpList _ _ _ _ _ w1.drew
  go_wp2_with fail
  refine HP.out.mono ?_
  rintro e w2 ⟨rfl, h2, hc2, f2⟩
  have HW := Lib.hid (write_wr kc w2.drew d b 4 8 (some ⟨b, 0, none⟩) (le32b idx) _ h2.drew hc2 (fun x o e => by injection e with e; injection e with e1 e2; have := h2.db; omega) (by omega) (by omega))
  have F2 := Lib.hid (F1.out.trans ((Fm.refl _ _).drew.trans f2))
  clear h2 hc2 f2 HP F1
  go_upto_region 5 with fail
  go_region_held3 (fun _ => True) ((trivial)) ((refine HW.out.mono ?_; rintro e w3 ⟨rfl, h3, f3⟩))
  have H3 := Lib.hid h3
  have F3 := Lib.hid (F2.out.trans ((Fm.refl _ _).drew.trans f3))
  clear h3 f3
  go_wp2
  go_ret
  exact ⟨rfl, H3.out, (Fm.refl _ _).drew.trans F3.out⟩
end Go.Proofs.YtkgihpebghmnbaaGreatDoor

namespace Go.Proofs.YtkgihpebghmnbaaGreatDoor
open Go.RowKit Go.Proofs

set_option maxRecDepth 100000

/-- A number of variable length. -/
def varb (n : Nat) : List UInt8 := if n < 253 then [by8 n] else if n ≤ 65535 then 253 :: le16b n else 254 :: le32b n

section
variable {w : World} {b : Nat}
theorem var1_cells {C : Array Value} (x : Int) (hb : Blk w b 5 (C.setIfInBounds 0 (.int .u8 (x % 256)))) (hC : C.size = 8) : Cells w (some ⟨b, 0, none⟩) 1 (bv [by8 x]) := by
  refine ⟨rfl, fun _ => ⟨b, 0, rfl, fun j u hu => ?_⟩⟩
  rw [Nat.zero_add, hb.cell]
  have hj : j < 1 := by have := (List.getElem?_eq_some_iff.1 hu).1; simpa [bv] using this
  match j, hj with
  | 0, _ => simp [bv, by8_val] at hu; subst hu; simp [hC]
theorem var3_cells {C : Array Value} (x : Int) (hb : Blk w b 5 (le16c (C.setIfInBounds 0 (.int .u8 253)) 1 x)) (hC : C.size = 8) : Cells w (some ⟨b, 0, none⟩) 3 (bv (253 :: le16b x)) := by
  refine ⟨rfl, fun _ => ⟨b, 0, rfl, fun j u hu => ?_⟩⟩
  rw [Nat.zero_add, hb.cell]
  have hj : j < 3 := by have := (List.getElem?_eq_some_iff.1 hu).1; simpa [bv, le16b] using this
  match j, hj with
  | 0, _ | 1, _ | 2, _ => simp [bv, le16b, by8_val] at hu; subst hu; simp [le16c, hC]
theorem var5_cells {C : Array Value} (x : Int) (hb : Blk w b 5 (le32c (C.setIfInBounds 0 (.int .u8 254)) 1 x)) (hC : C.size = 8) : Cells w (some ⟨b, 0, none⟩) 5 (bv (254 :: le32b x)) := by
  refine ⟨rfl, fun _ => ⟨b, 0, rfl, fun j u hu => ?_⟩⟩
  rw [Nat.zero_add, hb.cell]
  have hj : j < 5 := by have := (List.getElem?_eq_some_iff.1 hu).1; simpa [bv, le32b] using this
  match j, hj with
  | 0, _ | 1, _ | 2, _ | 3, _ | 4, _ => simp [bv, le32b, by8_val] at hu; subst hu; simp [le32c, hC]
end

/-- A store into the buffer. -/
theorem Wr.set {kc : Nat → Int} {w : World} {d b : Nat} {s : Sh} (h : Wr kc w d b s) (i : Nat) (u : Value) : Wr kc (w.setCell ⟨b, i, none⟩ u) d b s := by
  obtain ⟨C, h1, h2⟩ := h.buf
  have hf : Fm (M1 b) w (w.setCell ⟨b, i, none⟩ u) := (Fm.refl _ _).set1 i u
  exact ⟨h.dg.fm hf h.db, h.ok, h.kt.frm hf h.kb, ⟨_, h1.set_ i u, by simpa using h2⟩, h.db, h.kd, h.kb⟩

set_option maxHeartbeats 2000000 in
theorem var_wr1 (kc : Nat → Int) (w : World) (d b : Nat) (s : Sh) (n : Nat) (x1 : Value) (hn : n < 253) (h : Wr kc w d b s) :
    Calls Tryz.prog 181 #[.iface 181 (.pointer (some ⟨d, 0, none⟩)), x1, .int .u64 n, .slice (some ⟨b, 0, none⟩) 8 8] w fun e w' =>
      e = .returned .nilIface ∧ Wr kc w' d b (s.feed kc (varb n)) ∧ Fm (Mb d b) w w' := by
  have hna := nilAhead_write
  obtain ⟨C, hb, hC⟩ := h.buf
  have hlt : (n : Int) < 253 := by omega
  have hfr := hb.frozen
  obtain ⟨u0, c0⟩ : ∃ u, w.cell? ⟨b, 0, none⟩ = some u := ⟨C[0]'(by omega), by rw [hb.cell]; exact Array.getElem?_eq_getElem _⟩
  have hcv : (n : Int) % 256 = n := by omega
  have hw1 := h.set 0 (.int .u8 (n : Int))
  have hb1 := hb.set_ 0 (.int .u8 (n : Int))
  have hc1 := var1_cells (n : Int) (by rw [hcv]; exact hb1) hC
  have hf1 : Fm (M1 b) w (w.setCell ⟨b, 0, none⟩ (.int .u8 (n : Int))) := (Fm.refl _ _).set1 0 _
  generalize hwe : w.setCell ⟨b, 0, none⟩ (.int .u8 (n : Int)) = w1 at hw1 hb1 hc1 hf1
  have hv : varb n = [by8 n] := if_pos hn
  have HW := Lib.hid (write_wr kc w1.drew d b 1 8 (some ⟨b, 0, none⟩) [by8 n] s hw1.drew hc1 (fun x o e => by injection e with e; injection e with e1 e2; have := h.db; omega) (by omega) (by omega))
  have HF := Lib.hid hf1
  have HE := Lib.hid hwe
  clear h hb hC hw1 hb1 hc1 hf1 hwe
  go_enter Tryz.func181, Tryz.ntmps181
  go_upto_region 10 with fail
  rw [HE.out]
  go_region_held3 (fun _ => True) ((trivial)) ((refine HW.out.mono ?_; rintro e w2 ⟨rfl, h2, f2⟩))
  have H2 := Lib.hid h2
  have F2 := Lib.hid f2
  clear h2 f2
  go_wp2
  go_ret
  exact ⟨rfl, by rw [hv]; exact H2.out, HF.out.mb_b.trans ((Fm.refl _ _).drew.trans F2.out)⟩

set_option maxHeartbeats 2000000 in
theorem var_wr2 (kc : Nat → Int) (w : World) (d b : Nat) (s : Sh) (n : Nat) (x1 : Value) (hn0 : 253 ≤ n) (hn : n ≤ 65535) (h : Wr kc w d b s) :
    Calls Tryz.prog 181 #[.iface 181 (.pointer (some ⟨d, 0, none⟩)), x1, .int .u64 n, .slice (some ⟨b, 0, none⟩) 8 8] w fun e w' =>
      e = .returned .nilIface ∧ Wr kc w' d b (s.feed kc (varb n)) ∧ Fm (Mb d b) w w' := by
  have hna := nilAhead_write
  obtain ⟨C, hb, hC⟩ := h.buf
  have hlt : ¬ ((n : Int) < 253) := by omega
  have hlt2 : (n : Int) ≤ 65535 := by omega
  have hcv : (n : Int) % 65536 = n := by omega
  have hfr := hb.frozen
  obtain ⟨u0, c0⟩ : ∃ u, w.cell? ⟨b, 0, none⟩ = some u := ⟨C[0]'(by omega), by rw [hb.cell]; exact Array.getElem?_eq_getElem _⟩
  have hw1 := h.set 0 (.int .u8 253)
  have hb1 := hb.set_ 0 (.int .u8 253)
  have hf1 : Fm (M1 b) w (w.setCell ⟨b, 0, none⟩ (.int .u8 253)) := (Fm.refl _ _).set1 0 _
  generalize hwe : w.setCell ⟨b, 0, none⟩ (.int .u8 253) = w1 at hw1 hb1 hf1
  have hv : varb n = 253 :: le16b n := (if_neg (by omega)).trans (if_pos (by omega))
  have HL := Lib.hid (le16_any w1.drew b 1 2 7 _ _ (n : Int) (show Blk w1.drew b _ _ from hb1) (by omega) (by simp [hC]))
  have HF := Lib.hid hf1
  have HE := Lib.hid hwe
  have H1 := Lib.hid hw1
  have HC := Lib.hid hC
  clear h hb hC hw1 hb1 hf1 hwe
  go_enter Tryz.func181, Tryz.ntmps181
  go_upto_region 14 with fail
  rw [HE.out]
  go_still_tail 5, (by kernel_rfl)
  change wpList _ _ _ _ _ w1.drew
  go_wp2_with fail
  refine HL.out.mono ?_
  rintro e w2 ⟨rfl, hb2, hf2⟩
  have hc2 := var3_cells (n : Int) hb2 HC.out
  have hw2 : Wr kc w2 d b s := ⟨H1.out.dg.fm (M := M1 b) ((Fm.refl _ _).drew.trans hf2) H1.out.db, H1.out.ok, H1.out.kt.frm (M := M1 b) ((Fm.refl _ _).drew.trans hf2) H1.out.kb, ⟨_, hb2, by simp [le16c, HC.out]⟩, H1.out.db, H1.out.kd, H1.out.kb⟩
  have HW := Lib.hid (write_wr kc w2.drew d b 3 8 (some ⟨b, 0, none⟩) _ s hw2.drew hc2 (fun x o e => by injection e with e; injection e with e1 e2; have := hw2.db; omega) (by omega) (by omega))
  have F2 := Lib.hid (HF.out.trans ((Fm.refl _ _).drew.trans hf2))
  clear hw2 hb2 hf2 hc2 HL H1 HF
  go_upto_region 15 with fail
  go_region_held3 (fun _ => True) ((trivial)) ((refine HW.out.mono ?_; rintro e w3 ⟨rfl, h3, f3⟩))
  have H3 := Lib.hid h3
  have F3 := Lib.hid f3
  clear h3 f3
  go_wp2
  go_ret
  exact ⟨rfl, by rw [hv]; exact H3.out, F2.out.mb_b.trans ((Fm.refl _ _).drew.trans F3.out)⟩

set_option maxHeartbeats 2000000 in
theorem var_wr3 (kc : Nat → Int) (w : World) (d b : Nat) (s : Sh) (n : Nat) (x1 : Value) (hn0 : 65536 ≤ n) (hn : n ≤ 4294967295) (h : Wr kc w d b s) :
    Calls Tryz.prog 181 #[.iface 181 (.pointer (some ⟨d, 0, none⟩)), x1, .int .u64 n, .slice (some ⟨b, 0, none⟩) 8 8] w fun e w' =>
      e = .returned .nilIface ∧ Wr kc w' d b (s.feed kc (varb n)) ∧ Fm (Mb d b) w w' := by
  have hna := nilAhead_write
  obtain ⟨C, hb, hC⟩ := h.buf
  have hlt : ¬ ((n : Int) < 253) := by omega
  have hlt2 : ¬ ((n : Int) ≤ 65535) := by omega
  have hlt3 : (n : Int) ≤ 4294967295 := by omega
  have hcv : (n : Int) % 4294967296 = n := by omega
  have hfr := hb.frozen
  obtain ⟨u0, c0⟩ : ∃ u, w.cell? ⟨b, 0, none⟩ = some u := ⟨C[0]'(by omega), by rw [hb.cell]; exact Array.getElem?_eq_getElem _⟩
  have hw1 := h.set 0 (.int .u8 254)
  have hb1 := hb.set_ 0 (.int .u8 254)
  have hf1 : Fm (M1 b) w (w.setCell ⟨b, 0, none⟩ (.int .u8 254)) := (Fm.refl _ _).set1 0 _
  generalize hwe : w.setCell ⟨b, 0, none⟩ (.int .u8 254) = w1 at hw1 hb1 hf1
  have hv : varb n = 254 :: le32b n := (if_neg (by omega)).trans (if_neg (by omega))
  have HL := Lib.hid (le32_any w1.drew b 1 4 7 _ _ (n : Int) (show Blk w1.drew b _ _ from hb1) (by omega) (by simp [hC]))
  have HF := Lib.hid hf1
  have HE := Lib.hid hwe
  have H1 := Lib.hid hw1
  have HC := Lib.hid hC
  clear h hb hC hw1 hb1 hf1 hwe
  go_enter Tryz.func181, Tryz.ntmps181
  go_upto_region 19 with fail
  rw [HE.out]
  go_still_tail 5, (by kernel_rfl)
  change wpList _ _ _ _ _ w1.drew
  go_wp2_with fail
  refine HL.out.mono ?_
  rintro e w2 ⟨rfl, hb2, hf2⟩
  have hc2 := var5_cells (n : Int) hb2 HC.out
  have hw2 : Wr kc w2 d b s := ⟨H1.out.dg.fm (M := M1 b) ((Fm.refl _ _).drew.trans hf2) H1.out.db, H1.out.ok, H1.out.kt.frm (M := M1 b) ((Fm.refl _ _).drew.trans hf2) H1.out.kb, ⟨_, hb2, by simp [le32c, HC.out]⟩, H1.out.db, H1.out.kd, H1.out.kb⟩
  have HW := Lib.hid (write_wr kc w2.drew d b 5 8 (some ⟨b, 0, none⟩) _ s hw2.drew hc2 (fun x o e => by injection e with e; injection e with e1 e2; have := hw2.db; omega) (by omega) (by omega))
  have F2 := Lib.hid (HF.out.trans ((Fm.refl _ _).drew.trans hf2))
  clear hw2 hb2 hf2 hc2 HL H1 HF
  go_upto_region 20 with fail
  go_region_held3 (fun _ => True) ((trivial)) ((refine HW.out.mono ?_; rintro e w3 ⟨rfl, h3, f3⟩))
  have H3 := Lib.hid h3
  have F3 := Lib.hid f3
  clear h3 f3
  go_wp2
  go_ret
  exact ⟨rfl, by rw [hv]; exact H3.out, F2.out.mb_b.trans ((Fm.refl _ _).drew.trans F3.out)⟩

theorem var_wr (kc : Nat → Int) (w : World) (d b : Nat) (s : Sh) (n : Nat) (x1 : Value) (hn : n ≤ 1000000) (h : Wr kc w d b s) :
    Calls Tryz.prog 181 #[.iface 181 (.pointer (some ⟨d, 0, none⟩)), x1, .int .u64 n, .slice (some ⟨b, 0, none⟩) 8 8] w fun e w' =>
      e = .returned .nilIface ∧ Wr kc w' d b (s.feed kc (varb n)) ∧ Fm (Mb d b) w w' := by
  by_cases h1 : n < 253
  · exact var_wr1 kc w d b s n x1 h1 h
  · by_cases h2 : n ≤ 65535
    · exact var_wr2 kc w d b s n x1 (by omega) h2 h
    · exact var_wr3 kc w d b s n x1 (by omega) (by omega) h
end Go.Proofs.YtkgihpebghmnbaaGreatDoor

namespace Go.Proofs.YtkgihpebghmnbaaGreatDoor
open Go.RowKit Go.Proofs

set_option maxRecDepth 100000

set_option maxHeartbeats 2000000 in
theorem varBytes_wr (kc : Nat → Int) (w : World) (d b n c : Nat) (A : Option Addr) (bs : List UInt8) (s : Sh) (x1 : Value) (h : Wr kc w d b s) (hc : Cells w A n (bv bs)) (hA : ∀ x o, A = some ⟨x, o, none⟩ → x ≠ d ∧ x ≠ b) (hcc : n ≤ c) (hn : n ≤ 1000000) :
    Calls Tryz.prog 226 #[.iface 181 (.pointer (some ⟨d, 0, none⟩)), x1, .slice A n c, .slice (some ⟨b, 0, none⟩) 8 8] w fun e w' =>
      e = .returned .nilIface ∧ Wr kc w' d b ((s.feed kc (varb n)).feed kc bs) ∧ Fm (Mb d b) w w' := by
  have hna := nilAhead_write
  have hn0 : (n : Int) % 18446744073709551616 = n := by omega
  have HV := Lib.hid (var_wr kc w d b s n x1 (by omega) h)
  have HC := Lib.hid hc
  clear h hc
  go_enter Tryz.func226, Tryz.ntmps226
  go_wp2_with fail
  refine HV.out.mono ?_
  rintro e w1 ⟨rfl, h1, f1⟩
  have HW := Lib.hid (write_wr kc w1 d b n c A bs _ h1 (f1.mb_cells HC.out hA) (fun x o e => (hA x o e).1) hcc hn)
  have F1 := Lib.hid f1
  clear h1 f1 HV
  go_wp2_with fail
  refine HW.out.mono ?_
  rintro e w2 ⟨rfl, h2, f2⟩
  have H2 := Lib.hid h2
  have F2 := Lib.hid f2
  clear h2 f2 HW
  go_wp2
  go_ret
  exact ⟨rfl, H2.out, F1.out.trans F2.out⟩

/-- An input as it lies in memory: its cells. -/
structure Ci where
  h : List UInt8
  hl : h.length = 32
  idx : Int
  sv : Value
  wv : Value
  hw : wv.oneCell' = true
  seq : Int
def Ci.cells (c : Ci) : List Value := bv c.h ++ [.int .u32 c.idx, c.sv, c.wv, .int .u32 c.seq]
theorem Ci.len (c : Ci) : c.cells.length = 36 := by simp [Ci.cells, bv_length, c.hl]
theorem Ci.hash {w : World} {b o : Nat} {c : Ci} (h : w.rangeAt b o c.cells) : Cells w (some ⟨b, o, none⟩) 32 (bv c.h) :=
  ⟨by rw [bv_length, c.hl], fun _ => ⟨b, o, rfl, fun j u hu => h j u (by
    have := (List.getElem?_eq_some_iff.1 hu).1
    rw [Ci.cells, List.getElem?_append_left this]; exact hu)⟩⟩
theorem Ci.at32 (c : Ci) : c.cells[32]? = some (.int .u32 c.idx) := by
  rw [Ci.cells, List.getElem?_append_right (by rw [bv_length, c.hl]; omega)]; simp [bv_length, c.hl]
theorem Ci.at33 (c : Ci) : c.cells[33]? = some c.sv := by
  rw [Ci.cells, List.getElem?_append_right (by rw [bv_length, c.hl]; omega)]; simp [bv_length, c.hl]
theorem Ci.at34 (c : Ci) : c.cells[34]? = some c.wv := by
  rw [Ci.cells, List.getElem?_append_right (by rw [bv_length, c.hl]; omega)]; simp [bv_length, c.hl]
theorem Ci.at35 (c : Ci) : c.cells[35]? = some (.int .u32 c.seq) := by
  rw [Ci.cells, List.getElem?_append_right (by rw [bv_length, c.hl]; omega)]; simp [bv_length, c.hl]

theorem Fm.mb_range {w w' : World} {d b x o : Nat} {vs : List Value} (h : Fm (Mb d b) w w') (hr : w.rangeAt x o vs) (h1 : x ≠ d) (h2 : x ≠ b) : w'.rangeAt x o vs := fun j v hv => h.mb_cell (hr j v hv) h1 h2

/-- What an input feeds. -/
def feedIn (kc : Nat → Int) (s : Sh) (h : List UInt8) (idx : Int) (scr : List UInt8) (seq : Int) : Sh :=
  ((((s.feed kc h).feed kc (le32b idx)).feed kc (varb scr.length)).feed kc scr).feed kc (le32b seq)

set_option maxHeartbeats 2000000 in
theorem txIn_wr (kc : Nat → Int) (w : World) (d b p o n c : Nat) (A : Option Addr) (scr : List UInt8) (s : Sh) (ci : Ci) (x1 x2 : Value) (h : Wr kc w d b s) (hr : w.rangeAt p o ci.cells) (hsv : ci.sv = .slice A n c) (hc : Cells w A n (bv scr)) (hA : ∀ x o, A = some ⟨x, o, none⟩ → x ≠ d ∧ x ≠ b) (hcc : n ≤ c) (hn : n ≤ 1000000) (hpd : p ≠ d) (hpb : p ≠ b) :
    Calls Tryz.prog 182 #[.iface 181 (.pointer (some ⟨d, 0, none⟩)), x1, x2, .pointer (some ⟨p, o, none⟩), .slice (some ⟨b, 0, none⟩) 8 8] w fun e w' =>
      e = .returned .nilIface ∧ Wr kc w' d b (feedIn kc s ci.h ci.idx scr ci.seq) ∧ Fm (Mb d b) w w' := by
  have hna := nilAhead_write
  have hsl : scr.length = n := by rw [← bv_length]; exact hc.1
  have HO := Lib.hid (outPoint_wr kc w d b p o s ci.h ci.idx x1 x2 h (Ci.hash hr) (hr 32 _ ci.at32) hpd hpb)
  have HR := Lib.hid hr
  have HC := Lib.hid hc
  have HS := Lib.hid hsv
  clear h hr hc hsv
  go_enter Tryz.func182, Tryz.ntmps182
  go_wp2_with fail
  refine HO.out.mono ?_
  rintro e w1 ⟨rfl, h1, f1⟩
  have r1 := f1.mb_range HR.out hpd hpb
  have c33 := r1 33 _ ci.at33
  rw [HS.out] at c33
  have HV := Lib.hid (varBytes_wr kc w1 d b n c A scr _ x1 h1 (f1.mb_cells HC.out hA) hA hcc hn)
  have F1 := Lib.hid f1
  have R1 := Lib.hid r1
  clear h1 f1 r1 HO
  go_wp2_with fail
  refine HV.out.mono ?_
  rintro e w2 ⟨rfl, h2, f2⟩
  have r2 := f2.mb_range R1.out hpd hpb
  have c35 := r2 35 _ ci.at35
  have HP := Lib.hid (put32_wr kc w2.drew d b 8 _ ci.seq h2.drew)
  have F2 := Lib.hid (F1.out.trans f2)
  clear h2 f2 r2 HV F1 R1 c33
  go_upto_region 7 with fail
  go_still_tail 7, (by kernel_rfl)
  change wpList _ _ _ _ _ w2.drew
  go_wp2_with fail
  refine HP.out.mono ?_
  rintro e w3 ⟨rfl, h3, hc3, f3⟩
  have HW := Lib.hid (write_wr kc w3.drew d b 4 8 (some ⟨b, 0, none⟩) (le32b ci.seq) _ h3.drew hc3 (fun x o e => by injection e with e; injection e with e1 e2; have := h3.db; omega) (by omega) (by omega))
  have F3 := Lib.hid (F2.out.trans ((Fm.refl _ _).drew.trans f3))
  clear h3 hc3 f3 HP F2 c35
  go_upto_region 8 with fail
  go_region_held3 (fun _ => True) ((trivial)) ((refine HW.out.mono ?_; rintro e w4 ⟨rfl, h4, f4⟩))
  have H4 := Lib.hid h4
  have F4 := Lib.hid (F3.out.trans ((Fm.refl _ _).drew.trans f4))
  clear h4 f4
  go_wp2
  go_ret
  refine ⟨rfl, ?_, F4.out⟩
  unfold feedIn
  rw [hsl]
  exact H4.out

/-- What an output feeds. -/
def feedOut (kc : Nat → Int) (s : Sh) (val : Int) (scr : List UInt8) : Sh :=
  ((s.feed kc (le64b (val % 18446744073709551616))).feed kc (varb scr.length)).feed kc scr

set_option maxHeartbeats 2000000 in
theorem txOut_wr (kc : Nat → Int) (w : World) (d b p o n c : Nat) (A : Option Addr) (scr : List UInt8) (s : Sh) (val : Int) (x1 x2 : Value) (h : Wr kc w d b s) (h0 : w.cell? ⟨p, o, none⟩ = some (.int .i64 val)) (h1 : w.cell? ⟨p, o + 1, none⟩ = some (.slice A n c)) (hc : Cells w A n (bv scr)) (hA : ∀ x o, A = some ⟨x, o, none⟩ → x ≠ d ∧ x ≠ b) (hcc : n ≤ c) (hn : n ≤ 1000000) (hpd : p ≠ d) (hpb : p ≠ b) :
    Calls Tryz.prog 183 #[.iface 181 (.pointer (some ⟨d, 0, none⟩)), x1, x2, .pointer (some ⟨p, o, none⟩), .slice (some ⟨b, 0, none⟩) 8 8] w fun e w' =>
      e = .returned .nilIface ∧ Wr kc w' d b (feedOut kc s val scr) ∧ Fm (Mb d b) w w' := by
  have hna := nilAhead_write
  have hsl : scr.length = n := by rw [← bv_length]; exact hc.1
  have HP := Lib.hid (put64_wr kc w.drew d b 8 _ (val % 18446744073709551616) h.drew)
  have HC := Lib.hid hc
  have C1 := Lib.hid h1
  clear h h1 hc
  go_enter Tryz.func183, Tryz.ntmps183
  go_upto_region 1 with fail
  go_still_tail 7, (by kernel_rfl)
  change wpList _ _ _ _ _ w.drew
  go_wp2_with fail
  refine HP.out.mono ?_
  rintro e w1 ⟨rfl, k1, hc1, f1⟩
  have HW := Lib.hid (write_wr kc w1 d b 8 8 (some ⟨b, 0, none⟩) (le64b (val % 18446744073709551616)) _ k1 hc1 (fun x o e => by injection e with e; injection e with e1 e2; have := k1.db; omega) (by omega) (by omega))
  have F1 := Lib.hid (show Fm (Mb d b) w w1 from (Fm.refl _ _).drew.trans f1)
  clear k1 hc1 f1 HP h0
  go_wp2_with fail
  refine HW.out.mono ?_
  rintro e w2 ⟨rfl, k2, f2⟩
  have f2' := F1.out.trans f2
  have c1 := f2'.mb_cell C1.out hpd hpb
  have HV := Lib.hid (varBytes_wr kc w2 d b n c A scr _ x1 k2 (f2'.mb_cells HC.out hA) hA hcc hn)
  have F2 := Lib.hid f2'
  clear k2 f2 f2' HW F1
  go_wp2_with fail
  refine HV.out.mono ?_
  rintro e w3 ⟨rfl, k3, f3⟩
  have K3 := Lib.hid k3
  have F3 := Lib.hid f3
  clear k3 f3
  go_wp2
  go_ret
  refine ⟨rfl, ?_, F2.out.trans F3.out⟩
  unfold feedOut
  rw [hsl]
  exact K3.out
end Go.Proofs.YtkgihpebghmnbaaGreatDoor
