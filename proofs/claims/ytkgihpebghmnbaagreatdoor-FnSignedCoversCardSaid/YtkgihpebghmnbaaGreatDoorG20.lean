/- SHA-256: numbers laid as bytes, the greatest first. SHA-256: a new digest. SHA-256: the padding. -/
import Derived.Test.YtkgihpebghmnbaaGreatDoorShaW
namespace Go.Proofs.YtkgihpebghmnbaaGreatDoor
open Go.RowKit Go.Proofs

set_option maxRecDepth 100000

/-- The cells, 4 bytes laid over them. -/
def be32c (cs : Array Value) (o : Nat) (v : Int) : Array Value := ((((cs.setIfInBounds (o) (.int .u8 (v / 16777216 % 256))).setIfInBounds (o + 1) (.int .u8 (v / 65536 % 256))).setIfInBounds (o + 2) (.int .u8 (v / 256 % 256))).setIfInBounds (o + 3) (.int .u8 (v % 256)))

set_option maxHeartbeats 2000000 in
theorem be32_i (w : World) (b o n c : Nat) (t : TypeId) (cs : Array Value) (v : Int) (hb : Blk w b t cs) (hn : 4 ≤ n) (hs : o + 4 ≤ cs.size) :
    Calls Tryz.prog 305 #[.slice (some ⟨b, o, none⟩) n c, .int .u32 v] w fun e w' => e = .returned (.tuple #[]) ∧ Blk w' b t (be32c cs o v) ∧ Fm (M1 b) w w' := by
  have i0 : (0 : Int) < n := by omega
  have i1 : (1 : Int) < n := by omega
  have i2 : (2 : Int) < n := by omega
  have i3 : (3 : Int) < n := by omega
  obtain ⟨u0, e0⟩ : ∃ u, cs[o]'(by omega) = u := ⟨_, rfl⟩
  obtain ⟨u1, e1⟩ : ∃ u, cs[o + 1]'(by omega) = u := ⟨_, rfl⟩
  obtain ⟨u2, e2⟩ : ∃ u, cs[o + 2]'(by omega) = u := ⟨_, rfl⟩
  obtain ⟨u3, e3⟩ : ∃ u, cs[o + 3]'(by omega) = u := ⟨_, rfl⟩
  have c0 : w.cell? ⟨b, o, none⟩ = some u0 := by rw [hb.cell]; exact (Array.getElem?_eq_getElem _).trans (congrArg some e0)
  have c1 : w.cell? ⟨b, o + 1, none⟩ = some u1 := by rw [hb.cell]; exact (Array.getElem?_eq_getElem _).trans (congrArg some e1)
  have c2 : w.cell? ⟨b, o + 2, none⟩ = some u2 := by rw [hb.cell]; exact (Array.getElem?_eq_getElem _).trans (congrArg some e2)
  have c3 : w.cell? ⟨b, o + 3, none⟩ = some u3 := by rw [hb.cell]; exact (Array.getElem?_eq_getElem _).trans (congrArg some e3)
  have hf := hb.frozen
  have HB := Lib.hid hb
  clear hb e0 e1 e2 e3
  go_enter Tryz.func305, Tryz.ntmps305
  go_wp2
  go_end0
  refine ⟨rfl, ?_, ?_⟩
  · exact (((HB.out.set_ (o) _).set_ (o + 1) _).set_ (o + 2) _).set_ (o + 3) _
  · exact ((((Fm.refl _ _).set1 (o) _).set1 (o + 1) _).set1 (o + 2) _).set1 (o + 3) _

theorem be32_any (w : World) (b o n c : Nat) (t : TypeId) (cs : Array Value) (v : Int) (hb : Blk w b t cs) (hn : 4 ≤ n) (hs : o + 4 ≤ cs.size) :
    Calls Tryz.prog 302 #[.slice (some ⟨b, o, none⟩) n c, .int .u32 v] w fun e w' => e = .returned (.tuple #[]) ∧ Blk w' b t (be32c cs o v) ∧ Fm (M1 b) w w' := by
  have H := Lib.hid (be32_i w b o n c t cs v hb hn hs)
  clear hb
  go_enter Tryz.func302, Tryz.ntmps302
  go_wp2_with fail
  refine H.out.mono ?_
  rintro e w1 ⟨rfl, h1, h2⟩
  have H1 := Lib.hid h1
  have H2 := Lib.hid h2
  clear h1 h2
  go_wp2
  go_end0
  exact ⟨rfl, H1.out, H2.out⟩

/-- The cells, 8 bytes laid over them. -/
def be64c (cs : Array Value) (o : Nat) (v : Int) : Array Value := ((((((((cs.setIfInBounds (o) (.int .u8 (v / 72057594037927936 % 256))).setIfInBounds (o + 1) (.int .u8 (v / 281474976710656 % 256))).setIfInBounds (o + 2) (.int .u8 (v / 1099511627776 % 256))).setIfInBounds (o + 3) (.int .u8 (v / 4294967296 % 256))).setIfInBounds (o + 4) (.int .u8 (v / 16777216 % 256))).setIfInBounds (o + 5) (.int .u8 (v / 65536 % 256))).setIfInBounds (o + 6) (.int .u8 (v / 256 % 256))).setIfInBounds (o + 7) (.int .u8 (v % 256)))

set_option maxHeartbeats 2000000 in
theorem be64_i (w : World) (b o n c : Nat) (t : TypeId) (cs : Array Value) (v : Int) (hb : Blk w b t cs) (hn : 8 ≤ n) (hs : o + 8 ≤ cs.size) :
    Calls Tryz.prog 304 #[.slice (some ⟨b, o, none⟩) n c, .int .u64 v] w fun e w' => e = .returned (.tuple #[]) ∧ Blk w' b t (be64c cs o v) ∧ Fm (M1 b) w w' := by
  have i0 : (0 : Int) < n := by omega
  have i1 : (1 : Int) < n := by omega
  have i2 : (2 : Int) < n := by omega
  have i3 : (3 : Int) < n := by omega
  have i4 : (4 : Int) < n := by omega
  have i5 : (5 : Int) < n := by omega
  have i6 : (6 : Int) < n := by omega
  have i7 : (7 : Int) < n := by omega
  obtain ⟨u0, e0⟩ : ∃ u, cs[o]'(by omega) = u := ⟨_, rfl⟩
  obtain ⟨u1, e1⟩ : ∃ u, cs[o + 1]'(by omega) = u := ⟨_, rfl⟩
  obtain ⟨u2, e2⟩ : ∃ u, cs[o + 2]'(by omega) = u := ⟨_, rfl⟩
  obtain ⟨u3, e3⟩ : ∃ u, cs[o + 3]'(by omega) = u := ⟨_, rfl⟩
  obtain ⟨u4, e4⟩ : ∃ u, cs[o + 4]'(by omega) = u := ⟨_, rfl⟩
  obtain ⟨u5, e5⟩ : ∃ u, cs[o + 5]'(by omega) = u := ⟨_, rfl⟩
  obtain ⟨u6, e6⟩ : ∃ u, cs[o + 6]'(by omega) = u := ⟨_, rfl⟩
  obtain ⟨u7, e7⟩ : ∃ u, cs[o + 7]'(by omega) = u := ⟨_, rfl⟩
  have c0 : w.cell? ⟨b, o, none⟩ = some u0 := by rw [hb.cell]; exact (Array.getElem?_eq_getElem _).trans (congrArg some e0)
  have c1 : w.cell? ⟨b, o + 1, none⟩ = some u1 := by rw [hb.cell]; exact (Array.getElem?_eq_getElem _).trans (congrArg some e1)
  have c2 : w.cell? ⟨b, o + 2, none⟩ = some u2 := by rw [hb.cell]; exact (Array.getElem?_eq_getElem _).trans (congrArg some e2)
  have c3 : w.cell? ⟨b, o + 3, none⟩ = some u3 := by rw [hb.cell]; exact (Array.getElem?_eq_getElem _).trans (congrArg some e3)
  have c4 : w.cell? ⟨b, o + 4, none⟩ = some u4 := by rw [hb.cell]; exact (Array.getElem?_eq_getElem _).trans (congrArg some e4)
  have c5 : w.cell? ⟨b, o + 5, none⟩ = some u5 := by rw [hb.cell]; exact (Array.getElem?_eq_getElem _).trans (congrArg some e5)
  have c6 : w.cell? ⟨b, o + 6, none⟩ = some u6 := by rw [hb.cell]; exact (Array.getElem?_eq_getElem _).trans (congrArg some e6)
  have c7 : w.cell? ⟨b, o + 7, none⟩ = some u7 := by rw [hb.cell]; exact (Array.getElem?_eq_getElem _).trans (congrArg some e7)
  have hf := hb.frozen
  have HB := Lib.hid hb
  clear hb e0 e1 e2 e3 e4 e5 e6 e7
  go_enter Tryz.func304, Tryz.ntmps304
  go_wp2
  go_end0
  refine ⟨rfl, ?_, ?_⟩
  · exact (((((((HB.out.set_ (o) _).set_ (o + 1) _).set_ (o + 2) _).set_ (o + 3) _).set_ (o + 4) _).set_ (o + 5) _).set_ (o + 6) _).set_ (o + 7) _
  · exact ((((((((Fm.refl _ _).set1 (o) _).set1 (o + 1) _).set1 (o + 2) _).set1 (o + 3) _).set1 (o + 4) _).set1 (o + 5) _).set1 (o + 6) _).set1 (o + 7) _

theorem be64_any (w : World) (b o n c : Nat) (t : TypeId) (cs : Array Value) (v : Int) (hb : Blk w b t cs) (hn : 8 ≤ n) (hs : o + 8 ≤ cs.size) :
    Calls Tryz.prog 301 #[.slice (some ⟨b, o, none⟩) n c, .int .u64 v] w fun e w' => e = .returned (.tuple #[]) ∧ Blk w' b t (be64c cs o v) ∧ Fm (M1 b) w w' := by
  have H := Lib.hid (be64_i w b o n c t cs v hb hn hs)
  clear hb
  go_enter Tryz.func301, Tryz.ntmps301
  go_wp2_with fail
  refine H.out.mono ?_
  rintro e w1 ⟨rfl, h1, h2⟩
  have H1 := Lib.hid h1
  have H2 := Lib.hid h2
  clear h1 h2
  go_wp2
  go_end0
  exact ⟨rfl, H1.out, H2.out⟩

end Go.Proofs.YtkgihpebghmnbaaGreatDoor

namespace Go.Proofs.YtkgihpebghmnbaaGreatDoor
open Go.RowKit Go.Proofs

set_option maxRecDepth 100000

def R0 : R8 := ⟨1779033703, 3144134277, 1013904242, 2773480762, 1359893119, 2600822924, 528734635, 1541459225⟩

set_option maxHeartbeats 2000000 in
theorem reset_any (w : World) (d : Nat) (s : Sh) (hd : Dg w d s) :
    Calls Tryz.prog 179 #[.pointer (some ⟨d, 0, none⟩)] w fun e w' => e = .returned (.tuple #[]) ∧ Dg w' d { r := R0, x := s.x, nx := 0, len := 0 } ∧ Fm (M1 d) w w' := by
  have z0 := hd.1.cell 0
  change _ = some (Value.int .u32 s.r.a) at z0
  have z1 := hd.1.cell 1
  change _ = some (Value.int .u32 s.r.b) at z1
  have z2 := hd.1.cell 2
  change _ = some (Value.int .u32 s.r.c) at z2
  have z3 := hd.1.cell 3
  change _ = some (Value.int .u32 s.r.d) at z3
  have z4 := hd.1.cell 4
  change _ = some (Value.int .u32 s.r.e) at z4
  have z5 := hd.1.cell 5
  change _ = some (Value.int .u32 s.r.f) at z5
  have z6 := hd.1.cell 6
  change _ = some (Value.int .u32 s.r.g) at z6
  have z7 := hd.1.cell 7
  change _ = some (Value.int .u32 s.r.h) at z7
  have l0 := (hd.1.cell 73).trans (Sh.cell_len hd.2)
  have x0 := (hd.1.cell 72).trans (Sh.cell_nx hd.2)
  have q0 := (hd.1.cell 74).trans (Sh.cell_is hd.2)
  have hf := hd.1.frozen
  have h8 := (((((((hd.1.set_ 0 (.int .u32 R0.a)).set_ 1 (.int .u32 R0.b)).set_ 2 (.int .u32 R0.c)).set_ 3 (.int .u32 R0.d)).set_ 4 (.int .u32 R0.e)).set_ 5 (.int .u32 R0.f)).set_ 6 (.int .u32 R0.g)).set_ 7 (.int .u32 R0.h)
  rw [cells_set8] at h8
  have h9 := h8.set_ 72 (.int .i64 ((0 : Nat) : Int))
  rw [Sh.set_nx (s := { s with r := R0 }) hd.2] at h9
  have h10 := h9.set_ 73 (.int .u64 ((0 : Nat) : Int))
  rw [Sh.set_len (s := { ({ s with r := R0 } : Sh) with nx := 0 }) hd.2] at h10
  have HD := Lib.hid hd.2
  have H10 := Lib.hid h10
  clear h8 h9 h10 hd
  go_enter Tryz.func179, Tryz.ntmps179
  go_wp2
  go_end0
  exact ⟨rfl, ⟨H10.out, HD.out⟩, (((((((((((Fm.refl _ _).set1 0 _).set1 1 _).set1 2 _).set1 3 _).set1 4 _).set1 5 _).set1 6 _).set1 7 _).set1 72 _).set1 73 _)⟩

/-- A new hash. -/
def Sh0 : Sh := { r := R0, x := List.replicate 64 0, nx := 0, len := 0 }
def ShZ : Sh := { r := ⟨0, 0, 0, 0, 0, 0, 0, 0⟩, x := List.replicate 64 0, nx := 0, len := 0 }

theorem newi_any (w : World) :
    Calls Tryz.prog 96 #[] w fun e w' => ∃ d, e = .returned (.pointer (some ⟨d, 0, none⟩)) ∧ w.heap.size ≤ d ∧ Dg w' d Sh0 ∧ Below w.heap.size w w' := by
  have hz := Blk.new w 204 ShZ.cells.toArray
  have HR := Lib.hid (reset_any (w.alloc (.cells ShZ.cells.toArray 204)) w.heap.size ShZ ⟨hz, rfl⟩)
  have HB : Hid (Below w.heap.size w (w.alloc (.cells ShZ.cells.toArray 204))) := (Below.refl _ _).alloc (Nat.le_refl _) _
  clear hz
  go_enter Tryz.func96, Tryz.ntmps96
  go_wp2_with (refine wpList_alloc 204 rfl rfl ShZ.cells.toArray (by kernel_rfl) ?_; refine Stop.mk ?_)
  refine Stop.go ?_
  go_wp2_with fail
  refine HR.out.mono ?_
  rintro e w1 ⟨rfl, h1, h2⟩
  have H1 := Lib.hid h1
  have H2 := Lib.hid h2
  clear h1 h2 HR
  go_wp2
  go_ret
  exact ⟨_, rfl, Nat.le_refl _, H1.out, Below.fm HB.out H2.out HB.out.size (fun k hk hm => by
    have : k = w.heap.size := hm
    omega)⟩

theorem new_any (w : World) :
    Calls Tryz.prog 67 #[] w fun e w' => ∃ d, e = .returned (.iface 181 (.pointer (some ⟨d, 0, none⟩))) ∧ w.heap.size ≤ d ∧ Dg w' d Sh0 ∧ Below w.heap.size w w' := by
  have H := Lib.hid (newi_any w)
  go_enter Tryz.func67, Tryz.ntmps67
  go_wp2_with fail
  refine H.out.mono ?_
  rintro e w1 ⟨d, rfl, h0, h1, h2⟩
  have H1 := Lib.hid h1
  have H2 := Lib.hid h2
  clear h1 h2 H
  go_wp2
  go_ret
  exact ⟨d, rfl, h0, H1.out, H2.out⟩
end Go.Proofs.YtkgihpebghmnbaaGreatDoor

namespace Go.Proofs.YtkgihpebghmnbaaGreatDoor
open Go.RowKit Go.Proofs

set_option maxRecDepth 100000

/-- A number's eight bytes, the greatest first. -/
def be8 (v : Int) : List UInt8 := [UInt8.ofNat (v / 72057594037927936 % 256).toNat, UInt8.ofNat (v / 281474976710656 % 256).toNat, UInt8.ofNat (v / 1099511627776 % 256).toNat, UInt8.ofNat (v / 4294967296 % 256).toNat,
  UInt8.ofNat (v / 16777216 % 256).toNat, UInt8.ofNat (v / 65536 % 256).toNat, UInt8.ofNat (v / 256 % 256).toNat, UInt8.ofNat (v % 256).toNat]
def be4 (v : Int) : List UInt8 := [UInt8.ofNat (v / 16777216 % 256).toNat, UInt8.ofNat (v / 65536 % 256).toNat, UInt8.ofNat (v / 256 % 256).toNat, UInt8.ofNat (v % 256).toNat]
/-- The padding. -/
def padB (t : Nat) (v : Int) : List UInt8 := (128 :: List.replicate (t - 1) 0) ++ be8 v
theorem u8_of (x : Int) : ((UInt8.ofNat (x % 256).toNat).toNat : Int) = x % 256 := by
  simp
  omega
theorem padB_length (t : Nat) (v : Int) (h : 1 ≤ t) : (padB t v).length = t + 8 := by
  simp [padB, be8]
  omega
theorem bv_u8 (x : Int) (l : List UInt8) : bv (UInt8.ofNat (x % 256).toNat :: l) = .int .u8 (x % 256) :: bv l := by
  simp only [bv, List.map_cons, u8_of]

theorem pad_cells (t : Nat) (h1 : 1 ≤ t) (h2 : t ≤ 64) (v : Int) (j : Nat) (hj : j < t + 8) : (be64c ((Array.replicate 72 (Value.int .u8 0)).setIfInBounds 0 (.int .u8 128)) t v)[j]? = (bv (padB t v))[j]? := by
  unfold padB
  rw [bv_append]
  have hl : (bv (128 :: List.replicate (t - 1) (0 : UInt8))).length = t := by rw [bv_length]; simp; omega
  by_cases hjt : j < t
  · rw [List.getElem?_append_left (by omega)]
    unfold be64c
    rw [Array.getElem?_setIfInBounds, if_neg (by omega), Array.getElem?_setIfInBounds, if_neg (by omega), Array.getElem?_setIfInBounds, if_neg (by omega), Array.getElem?_setIfInBounds, if_neg (by omega), Array.getElem?_setIfInBounds, if_neg (by omega), Array.getElem?_setIfInBounds, if_neg (by omega), Array.getElem?_setIfInBounds, if_neg (by omega), Array.getElem?_setIfInBounds, if_neg (by omega), Array.getElem?_setIfInBounds]
    cases j with
    | zero => simp [bv]
    | succ j =>
      rw [if_neg (by omega)]
      rw [Array.getElem?_replicate, if_pos (by omega), bv_get]
      simp
      rw [List.getElem?_replicate, if_pos (by omega)]
      rfl
  · obtain ⟨i, rfl⟩ : ∃ i, j = t + i := ⟨j - t, by omega⟩
    rw [List.getElem?_append_right (by omega), hl, Nat.add_sub_cancel_left]
    unfold be8
    simp only [bv_u8]
    have hi : i = 0 ∨ i = 1 ∨ i = 2 ∨ i = 3 ∨ i = 4 ∨ i = 5 ∨ i = 6 ∨ i = 7 := by omega
    unfold be64c
    simp only [Array.getElem?_setIfInBounds, Array.size_setIfInBounds, Array.size_replicate]
    rcases hi with rfl | rfl | rfl | rfl | rfl | rfl | rfl | rfl
    all_goals (simp; try omega)
end Go.Proofs.YtkgihpebghmnbaaGreatDoor
