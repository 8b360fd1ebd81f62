/- The number that bytes of a script come to. Bytes of their own, the stack handed out, and the last check. A region that draws its order, walked by hand: the laws that leave the frame written out. -/
import Derived.Test.YtkgihpebghmnbaaGreatDoorG06
import Derived.LoopTactic
import Derived.WalkArith
import Derived.Test.YtkgihpebghmnbaaGreatDoorG02
import Derived.Deep.RegionHeld3
namespace Go.Proofs.YtkgihpebghmnbaaGreatDoor
open Go.RowKit Go.Proofs

set_option maxRecDepth 100000

theorem and128' (b : UInt8) (h : b.toNat < 128) : bits BinOp.and IntKind.u8 (b.toNat : Int) 128 = 0 := by
  have key : ∀ v : _root_.Fin 128, bits BinOp.and IntKind.u8 ((v.val : Nat) : Int) 128 = 0 := by decide +kernel
  exact key ⟨b.toNat, h⟩

theorem i64_or_nat (a b : Nat) (ha : a < 4611686018427387904) (hb : b < 4611686018427387904) : bits .or .i64 (a : Int) (b : Int) = ((a ||| b : Nat) : Int) := by
  have hx : a ||| b < 2 ^ 62 := Nat.or_lt_two_pow (by omega) (by omega)
  show IntKind.i64.wrap ((BitVec.ofInt 64 (a : Int) ||| BitVec.ofInt 64 (b : Int)).toNat : Int) = _
  rw [BitVec.toNat_or, ofInt_u64 a (by omega), ofInt_u64 b (by omega)]
  simp only [IntKind.wrap_i64]
  omega

theorem leV_lt (bs : List UInt8) : leV bs < 256 ^ bs.length := by
  induction bs with
  | nil => simp [leV]
  | cons b bs ih =>
    have := b.toNat_lt
    simp only [leV, List.length_cons, Nat.pow_succ]
    omega

theorem leV_snoc (bs : List UInt8) (b : UInt8) : leV (bs ++ [b]) = leV bs + 256 ^ bs.length * b.toNat := by
  induction bs with
  | nil => simp [leV]
  | cons c bs ih =>
    simp only [leV, List.cons_append, List.length_cons, Nat.pow_succ, ih]
    rw [Nat.mul_add, Nat.add_assoc]
    congr 2
    rw [← Nat.mul_assoc, Nat.mul_comm 256]

theorem or_step (acc y k : Nat) (hk : k ≤ 4) (ha : acc < 256 ^ k) (hy : y < 256) : bits .or .i64 (acc : Int) (wrap64 ((y : Int) * 2 ^ (8 * k))) = ((acc + 256 ^ k * y : Nat) : Int) := by
  have e : (256 : Nat) ^ k = 2 ^ (8 * k) := by rw [Nat.pow_mul]
  have hb : 256 ^ k * y < 4611686018427387904 := by
    have : 256 ^ k ≤ 256 ^ 4 := Nat.pow_le_pow_right (by omega) hk
    calc 256 ^ k * y ≤ 256 ^ 4 * 255 := Nat.mul_le_mul this (by omega)
      _ < _ := by decide
  have ha2 : acc < 4611686018427387904 := by
    have : 256 ^ k ≤ 256 ^ 4 := Nat.pow_le_pow_right (by omega) hk
    omega
  have hw : wrap64 ((y : Int) * 2 ^ (8 * k)) = ((256 ^ k * y : Nat) : Int) := by
    have : (y : Int) * 2 ^ (8 * k) = ((256 ^ k * y : Nat) : Int) := by
      rw [e]; push_cast; exact Int.mul_comm _ _
    rw [this]
    simp only [wrap64]
    omega
  rw [hw, i64_or_nat _ _ ha2 hb]
  congr 1
  rw [Nat.or_comm, e, ← Nat.two_pow_add_eq_or_of_lt (by rw [← e]; exact ha), Nat.add_comm]

theorem makeNum_any (w : World) (b o c m : Nat) (bs : List UInt8) (hl : bs.length = m + 1) (hn : m ≤ 4)
    (hc : ∀ k, k < m + 1 → w.cell? ⟨b, o + k, none⟩ = some (.int .u8 (bs.getD k 0).toNat)) (hlast : (bs.getD m 0).toNat < 128) :
    Calls Tryz.prog 192 #[.slice (some ⟨b, o, none⟩) (m + 1) c, .bool false, .int .i64 5] w fun e w' => e = .returned (.tuple #[.int .i64 (leV bs), .nilIface]) ∧ w = w' := by
  have hn1 : (m : Int) ≤ 4 := by omega
  have hn3 : ¬ ((m : Int) + 1 = 0) := by omega
  have hm1 : ((m : Int) + 1 == 0) = false := by simp; omega
  have HC := Lib.hid hc
  have hlc : w.cell? ⟨b, o + m, none⟩ = some (.int .u8 (bs.getD m 0).toNat) := hc m (by omega)
  have hla := and128' _ hlast
  have hll := Lib.hid hl
  generalize hlv : ((bs.getD m 0).toNat : Int) = lv at hlc hla
  clear hlv
  clear hc hlast hl
  go_enter Tryz.func192, Tryz.ntmps192
  go_wp2
  go_loop [10, 31] (fun t i => ∃ k : Nat, k ≤ m + 1 ∧ i = .int .i64 k ∧ t = .int .i64 (leV (bs.take k))) (fun _ i => m + 1 - (intOf i).toNat)
  case atStart => exact ⟨0, Nat.zero_le _, rfl, rfl⟩
  case round =>
    obtain ⟨k, hk, rfl, rfl⟩ := hrel
    have hcell : (k : Int) < (m : Int) + 1 → w.cell? ⟨b, o + k, none⟩ = some (.int .u8 (bs.getD k 0).toNat) := fun h => HC.out k (by omega)
    have hy256 : (bs.getD k 0).toNat < 256 := (bs.getD k 0).toNat_lt
    generalize hx : leV (bs.take k) = acc at *
    generalize hy : (bs.getD k 0).toNat = y at *
    have HX := Lib.hid hx
    have HY := Lib.hid hy
    clear hx hy
    go_wp2
    · go_round
      case rel =>
        have hk' : k < m + 1 := by omega
        refine ⟨k + 1, by omega, by go_num, ?_⟩
        congr 1
        have hll' := hll.out
        have hX := HX.out
        have hY := HY.out
        have hlen : (bs.take k).length = k := by rw [List.length_take]; omega
        rw [or_step acc y k (by omega) (by have := leV_lt (bs.take k); rw [hlen, hX] at this; exact this) hy256]
        have ht : bs.take (k + 1) = bs.take k ++ [bs.getD k 0] := by
          rw [List.take_add_one]
          congr 1
          rw [List.getD_eq_getElem?_getD, List.getElem?_eq_getElem (by omega)]
          rfl
        rw [ht, leV_snoc, hX, hlen, hY]
      case measure => simp [intOf]; omega
    · go_ret2
      have hk' : k = m + 1 := by omega
      have hX := HX.out
      rw [List.take_of_length_le (by have := hll.out; omega)] at hX
      rw [hX]
      exact ⟨rfl, rfl⟩

theorem makeNum_nil (w : World) (A : Option Addr) (c : Nat) :
    Calls Tryz.prog 192 #[.slice A 0 c, .bool false, .int .i64 5] w fun e w' => e = .returned (.tuple #[.int .i64 0, .nilIface]) ∧ w = w' := by
  go_enter Tryz.func192, Tryz.ntmps192
  go_wp2
  go_ret2
  exact ⟨rfl, rfl⟩

/-- Bytes of a number that is none below 0, in five bytes at most. -/
def NumOk (xs : List UInt8) : Prop := xs.length ≤ 5 ∧ (xs.getLastD 0).toNat < 128

theorem makeNum_rd (w : World) (B : Nat) (A : Option Addr) (c : Nat) (xs : List UInt8) (h : Rd B w (.slice A xs.length c) xs) (hx : NumOk xs) :
    Calls Tryz.prog 192 #[.slice A xs.length c, .bool false, .int .i64 5] w fun e w' => e = .returned (.tuple #[.int .i64 (leV xs), .nilIface]) ∧ w = w' := by
  cases hl : xs.length with
  | zero =>
    have : xs = [] := List.eq_nil_of_length_eq_zero hl
    subst this
    exact makeNum_nil w A c
  | succ m =>
    obtain ⟨b, o, rfl, -⟩ := h.cell (j := 0) (by omega)
    refine makeNum_any w b o c m xs hl (by have := hx.1; omega) (fun k hk => ?_) ?_
    · obtain ⟨b', o', e, hc⟩ := h.cell (j := k) (by omega)
      injection e with e
      injection e with e1 e2
      subst e1; subst e2
      exact hc
    · have := hx.2
      rw [List.getLastD_eq_getLast?, List.getLast?_eq_getElem?] at this
      rw [hl] at this
      simpa [List.getD_eq_getElem?_getD] using this

/-- CHECKLOCKTIMEVERIFY. -/
theorem cltv_vm (w : World) (g : Nat) (B : Bd) (l n c tb ib io : Nat) (cs : Array Value) (xss : List (List UInt8)) (xs : List UInt8) (op data : Value) (h : Vm w g B cs (xss ++ [xs])) (hn : xss.length ≤ 100000)
    (hx : NumOk xs) (hl : l < 4294967296)
    (hfl : cs[0]? = some (.int .u32 8)) (hmd : cs[24]? = some (.bool false)) (hlt : cs[4]? = some (.int .u32 l)) (hti : cs[2]? = some (.slice (some ⟨tb, 0, none⟩) (n + 1) c)) (hid : cs[5]? = some (.int .i64 0))
    (hrow : w.cell? ⟨tb, 0, none⟩ = some (.pointer (some ⟨ib, io, none⟩))) (hseq : w.cell? ⟨ib, io + 35, none⟩ = some (.int .u32 100)) :
    Calls Tryz.prog 118 #[op, data, .pointer (some ⟨g, 0, none⟩)] w fun e w' => ∃ r, e = .returned r ∧
      ((r = .nilIface ∧ Met (leV xs) l) ∨ (Fault r ∧ ¬ Met (leV xs) l)) ∧ Below w.heap.size w w' := by
  have hbl := h.blk.lt
  have c0 := (h.blk.cell 0).trans hfl
  have c2 := (h.blk.cell 2).trans hti
  have c4 := (h.blk.cell 4).trans hlt
  have c5 := (h.blk.cell 5).trans hid
  have c24 := (h.blk.cell 24).trans hmd
  have hib := World.block_lt_of_cell? w _ hseq
  have HP := Lib.hid (peek_vm w g B cs xss xs h hn)
  have HF := Lib.hid (hasFlag_any w g 8 8 8 (by decide) c0)
  have hv : leV xs < 1099511627776 := by
    have h1 := leV_lt xs
    have h2 : 256 ^ xs.length ≤ 256 ^ 5 := Nat.pow_le_pow_right (by omega) hx.1
    omega
  have HX := Lib.hid hx
  clear h hx hfl hmd hlt hti hid
  go_enter Tryz.func118, Tryz.ntmps118
  go_wp2_with fail
  refine HF.out.mono ?_
  rintro e w1 ⟨rfl, rfl⟩
  go_wp2_with fail
  refine HP.out.mono ?_
  rintro e w1 ⟨A, cc, rfl, hrd, rfl⟩
  have hrd := Lib.hid hrd
  go_wp2_with fail
  refine (makeNum_rd _ 0 A cc xs hrd.out HX.out).mono ?_
  rintro e w1 ⟨rfl, rfl⟩
  have hneg : ¬ ((leV xs : Int) < 0) := by omega
  go_wp2_with fail
  refine (verifyLock_any _ l (leV xs) (by omega) (by omega) (by omega) (by omega)).mono ?_
  rintro e w1 ⟨r, rfl, hb, hr⟩
  have HB := Lib.hid hb
  rcases hr with ⟨rfl, hm⟩ | ⟨⟨cd, s, rfl, h1, h2⟩, hm⟩
  · have c2' : w1.cell? ⟨g, 2, none⟩ = _ := (World.cell?_of_block (w := w) (hb.block g hbl)).trans c2
    have c5' : w1.cell? ⟨g, 5, none⟩ = _ := (World.cell?_of_block (w := w) (hb.block g hbl)).trans c5
    have hrow' : w1.cell? ⟨tb, 0, none⟩ = _ := (World.cell?_of_block (w := w) (hb.block tb (World.block_lt_of_cell? w _ hrow))).trans hrow
    have hseq' : w1.cell? ⟨ib, io + 35, none⟩ = _ := (World.cell?_of_block (w := w) (hb.block ib hib)).trans hseq
    have hbl' : g < w1.heap.size := Nat.lt_of_lt_of_le hbl hb.size
    have hib' : ib < w1.heap.size := Nat.lt_of_lt_of_le hib hb.size
    have HM := Lib.hid hm
    clear hb hm
    go_wp2
    go_quiet (fail)
    go_wp2
    go_ret
    have HB' := HB.out
    exact ⟨.nilIface, rfl, .inl ⟨rfl, HM.out⟩, ⟨HB'.os, HB'.tape, HB'.output, HB'.size, HB'.block⟩⟩
  · have HM := Lib.hid hm
    clear hb hm
    go_wp2
    go_ret
    exact ⟨_, rfl, .inr ⟨⟨cd, s, rfl, h1, h2⟩, HM.out⟩, HB.out⟩
end Go.Proofs.YtkgihpebghmnbaaGreatDoor

namespace Go.Proofs.YtkgihpebghmnbaaGreatDoor
open Go.RowKit Go.Proofs

set_option maxRecDepth 100000

/-- Bytes of their own. -/
theorem copied_any (w : World) (B n c : Nat) (A : Option Addr) (bs : List UInt8) (h : Rd B w (.slice A n c) bs) (hn : n ≤ 1000000000) :
    Calls Tryz.prog 18 #[.slice A n c] w fun e w' => ∃ A' c', e = .returned (.slice A' n c') ∧ w'.ownsRow w.heap.size 5 1 (.slice A' n c') n (bv bs) ∧ Below w.heap.size w w' := by
  obtain ⟨i0, hi, hz0, hz1, hz2⟩ := info_parts info_u8
  have hown := Lib.hid (World.ownsRow_made (base := w.heap.size) (e := 5) (size := 1) w #[] 0 (Nat.le_refl _) (by simp [maxLen]) rfl)
  have hc := Lib.hid ((Cells.of_rd h).below ((Below.refl w.heap.size w).alloc (Nat.le_refl _) (.cells #[] 5)))
  have hone : Hid (∀ u ∈ bv bs, u.oneCell' = true) := by
    intro u hu
    simp only [bv, List.mem_map] at hu
    obtain ⟨b, _, rfl⟩ := hu
    rfl
  have hb : Hid (w.heap.size ≤ (w.alloc (.cells #[] 5)).heap.size) := by show _ ≤ _; simp
  clear h
  go_enter Tryz.func18, Tryz.ntmps18
  go_wp2_with (at_builtin; refine Stop.mk ?_)
  refine Stop.go ?_
  refine wpList_append_cells _ rfl (.tmp 3) (.tmp 4) 30 rfl w.heap.size 5 i0 _ 1 Tryz.underlying30 hi hz0 hz1 hz2 rfl _ 0 [] rfl hown.out A n c (bv bs) rfl hc.out hone.out (by omega) (by omega) hb.out ?_
  intro v' w1 hown' hgrow hat
  simp only [Nat.zero_add, List.nil_append] at hown'
  obtain ⟨A', c', rfl⟩ := own_form hown'
  have hbel : Below w.heap.size w w1 := ((Below.refl _ _).alloc (Nat.le_refl _) _).grown hgrow (by simp) (fun k hk => by injection hk with hk; exact Nat.le_of_eq hk)
  have HB := Lib.hid hbel
  have HO := Lib.hid hown'
  clear hbel hown' hgrow hat
  go_wp2
  go_ret
  exact ⟨_, _, rfl, HO.out, HB.out⟩

theorem copies_nil (w : World) (A : Option Addr) (c : Nat) :
    Calls Tryz.prog 24 #[.slice A 0 c] w fun e w' => e = .returned (.slice none 0 0) ∧ w = w' := by
  go_enter Tryz.func24, Tryz.ntmps24
  go_wp2
  refine wp_loop_rounds 1 ?_
  rw [rounds_succ]
  go_wp2
  go_ret
  exact ⟨rfl, rfl⟩

theorem copies_one (w : World) (b o c n cx : Nat) (A : Option Addr) (bs : List UInt8) (hc : w.cell? ⟨b, o, none⟩ = some (.slice A n cx)) (h : Rd 0 w (.slice A n cx) bs) (hn : n ≤ 1000000000) :
    Calls Tryz.prog 24 #[.slice (some ⟨b, o, none⟩) 1 c] w fun e w' => (∃ A' c', e = .returned (.slice A' 1 c')) ∧ Below w.heap.size w w' := by
  obtain ⟨i0, hi, hz0, hz1, hz2⟩ := info_parts info_rows
  have H := Lib.hid (copied_any w 0 n cx A bs h hn)
  clear h
  go_enter Tryz.func24, Tryz.ntmps24
  go_wp2
  refine wp_loop_rounds 2 ?_
  rw [rounds_succ]
  go_wp2_with fail
  refine H.out.mono ?_
  rintro e w1 ⟨A', c', rfl, -, hb⟩
  have HB := Lib.hid hb
  clear hb
  go_wp2_with (at_builtin; refine Stop.mk ?_)
  refine Stop.go ?_
  refine wpList_append_cells _ rfl (.tmp 11) (.tmp 17) 41 rfl w.heap.size 30 i0 _ 24 Tryz.underlying41 hi hz0 hz1 hz2 rfl (.slice none 0 0) 0 [] rfl ⟨rfl, .inl ⟨rfl, rfl⟩⟩ (some ⟨w1.heap.size, 0, none⟩) 1 1 [.slice A' n c'] rfl (Cells.one w1 _ _) (by intro u hu; simp at hu; subst hu; rfl) (by omega) (by omega) (by have := HB.out.size; simp; omega) ?_
  intro v' w2 hown' hgrow hat
  simp only [Nat.zero_add, List.nil_append] at hown'
  obtain ⟨A2, c2, rfl⟩ := own_form hown'
  have HB2 := Lib.hid ((HB.out.alloc HB.out.size _).grown hgrow (by simp; have := HB.out.size; omega) (fun k hk => by simp [Value.ownBlock] at hk))
  clear hown' hgrow hat
  go_wp2
  rw [rounds_succ]
  go_wp2
  go_ret
  exact ⟨⟨_, _, rfl⟩, HB2.out⟩

theorem make00 : ∀ w : World, (Instr.makeSlice 41 (.int .i32 0) (.int .i32 0)).run Tryz.prog w = .ok (.slice (some ⟨w.heap.size, 0, none⟩) 0 0) (w.alloc (.cells #[] 30)) := fun _ => by kernel_rfl
theorem make11 : ∀ w : World, (Instr.makeSlice 41 (.int .i32 1) (.int .i32 1)).run Tryz.prog w = .ok (.slice (some ⟨w.heap.size, 0, none⟩) 1 1) (w.alloc (.cells #[.slice none 0 0] 30)) := fun _ => by kernel_rfl

theorem getStack0 (w : World) (b o c : Nat) (A : Option Addr) (h : w.cell? ⟨b, o, none⟩ = some (.slice A 0 c)) :
    Calls Tryz.prog 37 #[.pointer (some ⟨b, o, none⟩)] w fun e w' => (∃ A' c', e = .returned (.slice A' 0 c')) ∧ Below w.heap.size w w' := by
  have hm := make00
  have HD := Lib.hid (depth_any w b o 0 c A (by omega) h)
  go_enter Tryz.func37, Tryz.ntmps37
  go_wp2_with fail
  refine HD.out.mono ?_
  rintro e w1 ⟨rfl, rfl⟩
  go_wp2
  refine wp_loop_rounds 1 ?_
  rw [rounds_succ]
  go_wp2
  go_ret
  exact ⟨⟨_, _, rfl⟩, (Below.refl _ _).alloc (Nat.le_refl _) _⟩

theorem getStack1 (w : World) (g : Nat) (B : Bd) (cs : Array Value) (xs : List UInt8) (h : Vm w g B cs [xs]) :
    Calls Tryz.prog 37 #[.pointer (some ⟨g, 23, none⟩)] w fun e w' => ∃ b A c, e = .returned (.slice (some ⟨b, 0, none⟩) 1 1) ∧ w'.cell? ⟨b, 0, none⟩ = some (.slice A xs.length c) ∧
      Rd 0 w' (.slice A xs.length c) xs ∧ Below w.heap.size w w' := by
  have hm := make11
  obtain ⟨A0, c0, items, h23, -, -⟩ := h.stk
  have HD := Lib.hid (depth_any w g 23 1 c0 A0 (by omega) ((h.blk.cell 23).trans h23))
  have hbel : Below w.heap.size w (w.alloc (.cells #[.slice none 0 0] 30)) := (Below.refl _ _).alloc (Nat.le_refl _) _
  have HP := Lib.hid (peek_vm (w.alloc (.cells #[.slice none 0 0] 30)) g B cs [] xs (h.below hbel) (by simp))
  clear h h23 hbel
  go_enter Tryz.func37, Tryz.ntmps37
  go_wp2_with fail
  refine HD.out.mono ?_
  rintro e w1 ⟨rfl, rfl⟩
  go_wp2
  refine wp_loop_rounds 2 ?_
  rw [rounds_succ]
  go_wp2_with fail
  refine HP.out.mono ?_
  rintro e w1 ⟨A, c, rfl, hr, rfl⟩
  have HR := Lib.hid hr
  clear hr
  go_wp2
  rw [rounds_succ]
  go_wp2
  go_ret
  have hf : Fm (M1 w.heap.size) (w.alloc (.cells #[.slice none 0 0] 30)) (w.alloc (.cells #[.slice A xs.length c] 30)) := by
    have e : (w.alloc (.cells #[.slice none 0 0] 30)).setCell ⟨w.heap.size, 0, none⟩ (.slice A xs.length c) = w.alloc (.cells #[.slice A xs.length c] 30) := by
      rw [World.setCell_alloc_new]; rfl
    rw [← e]
    exact (Fm.refl _ _).set1 0 _
  refine ⟨w.heap.size, A, c, rfl, ?_, HR.out.fm hf ?_, (Below.refl _ _).alloc (Nat.le_refl _) _⟩
  · exact (Blk.new w 30 #[.slice A xs.length c]).cell 0
  · rintro k hk rfl
    exact ⟨Nat.zero_le _, _, _, _, Blk.new w 30 #[.slice none 0 0], by simp [Sx]⟩

theorem getStack_g (w : World) (g : Nat) (R : Ending → World → Prop) (_hg : g < w.heap.size) (hR : ∀ e w', R e w' → ∃ A n c, e = .returned (.slice A n c))
    (h : Calls Tryz.prog 37 #[.pointer (some ⟨g, 23, none⟩)] w R) :
    Calls Tryz.prog 25 #[.pointer (some ⟨g, 0, none⟩)] w R := by
  have H := Lib.hid h
  have HR := Lib.hid hR
  clear h hR
  go_enter Tryz.func25, Tryz.ntmps25
  go_wp2_with fail
  refine H.out.mono ?_
  intro e w1 hr
  obtain ⟨A, n, c, rfl⟩ := HR.out _ _ hr
  have hr := Lib.hid hr
  go_wp2
  exact hr.out

theorem popBool_vm (w : World) (g : Nat) (B : Bd) (cs : Array Value) (xss : List (List UInt8)) (h : Vm w g B cs (xss ++ [[1]])) (hn : xss.length ≤ 100000) :
    Calls Tryz.prog 64 #[.pointer (some ⟨g, 23, none⟩)] w fun e w' => e = .returned (.tuple #[.bool true, .nilIface]) ∧
      ∃ cs', Vm w' g B cs' xss ∧ K23 cs cs' ∧ Fs g B w w' := by
  obtain ⟨A, c, items, h1, h2, h3⟩ := h.stk
  have hl : items.length = xss.length + 1 := by rw [h3.1]; simp
  obtain ⟨its, x, rfl⟩ : ∃ its x, items = its ++ [x] := ⟨items.dropLast, items.getLast (by intro e; simp [e] at hl), (List.dropLast_concat_getLast _).symm⟩
  obtain ⟨h4, h5⟩ := h3.init
  obtain ⟨Ax, cx, rfl, hcx⟩ := h5.slice
  have e : (xss ++ [[1]]).length = xss.length + 1 := by simp
  rw [e] at h1 h2
  refine (popBool_any w g 23 _ B.n xss.length cs A Ax c 1 cx its true h.blk h1 h2 (by decide) hn ?_).mono ?_
  · intro w' hf
    obtain ⟨b, o, rfl, hc⟩ := (Fs.of_m1 (B := B) hf).rd h.blk h5 |>.cell (j := 0) (by simp)
    exact .inr ⟨b, o, rfl, rfl, rfl, by simpa using hc⟩
  rintro e w' ⟨rfl, hb, ho, hf⟩
  have hfs : Fs g B w w' := Fs.of_m1 hf
  exact ⟨rfl, _, ⟨hb, h.base.le hf.size, free_here h1 h.free, A, c, its, get_here h1, ho, hfs.rdl h.blk h4⟩, K23.set _ _, hfs⟩

theorem witActive_any (w : World) (g : Nat) (x : Value) (h : w.cell? ⟨g, 30, none⟩ = some (.slice none 0 0)) :
    Calls Tryz.prog 63 #[.pointer (some ⟨g, 0, none⟩), x] w fun e w' => e = .returned (.bool false) ∧ w = w' := by
  go_enter Tryz.func63, Tryz.ntmps63
  go_wp2
  go_ret
  exact ⟨rfl, rfl⟩

/-- The last check, where one truth is left. -/
theorem check_fine (w : World) (g : Nat) (B : Bd) (sb : Nat) (fl : Int) (cs : Array Value) (h : Vm w g B cs [[1]]) (h0 : cs[0]? = some (.int .u32 fl)) (hfl : bits .and .u32 fl 32 = 0) (h30 : cs[30]? = some (.slice none 0 0)) (h32 : cs[32]? = some (.pointer none))
    (h11 : cs[11]? = some (.slice (some ⟨sb, 0, none⟩) 2 2)) (h12 : cs[12]? = some (.int .i64 2)) :
    Calls Tryz.prog 36 #[.pointer (some ⟨g, 0, none⟩), .bool true] w fun e w' => e = .returned .nilIface ∧ ∃ cs', Vm w' g B cs' [] ∧ Fs g B w w' := by
  have c0 := (h.blk.cell 0).trans h0
  have c11 := (h.blk.cell 11).trans h11
  have c12 := (h.blk.cell 12).trans h12
  have c30 := (h.blk.cell 30).trans h30
  have c32 := (h.blk.cell 32).trans h32
  obtain ⟨A0, cc0, items, h23, -, -⟩ := h.stk
  have c23 := (h.blk.cell 23).trans h23
  have hbl := h.blk.lt
  have HV := Lib.hid h
  clear h h0 h11 h12 h30 h32 h23
  go_enter Tryz.func36, Tryz.ntmps36
  go_wp2_with fail
  go_quiet (fail)
  go_wp2_with fail
  refine (witActive_any (w.drewN nq) g _ c30).mono ?_
  rintro e w1 ⟨rfl, rfl⟩
  go_wp2_with fail
  refine (hasFlag_any (w.drewN nq) g fl 32 0 hfl c0).mono ?_
  rintro e w1 ⟨rfl, rfl⟩
  go_wp2_with fail
  refine (depth_any (w.drewN nq) g 23 1 cc0 A0 (by omega) c23).mono ?_
  rintro e w1 ⟨rfl, rfl⟩
  go_wp2_with fail
  refine (popBool_vm (w.drewN nq) g B _ [] (HV.out.drewN nq) (by simp)).mono ?_
  rintro e w1 ⟨rfl, cs', hv, -, hf⟩
  have hv := Lib.hid hv
  have hf := Lib.hid (((Fs.refl g B w).drewN _).trans hf)
  go_wp2
  go_ret
  exact ⟨rfl, cs', hv.out, hf.out⟩

end Go.Proofs.YtkgihpebghmnbaaGreatDoor

namespace Go.Proofs.YtkgihpebghmnbaaGreatDoor
open Go.RowKit Go.Proofs

section
variable {P : Program} {ops : Array Oper} {Q : Exit → Act → World → Prop} {md : Region.Mode} {S : World → Prop}

/-- Operation number i is taken first; its value goes into slot d. -/
theorem held_take (i d : Nat) {oi : Oper} (v : Value) {fuel : Nat} {listed : Array Bool} {l : List Value} {ds : List Deferred} {w : World} (hi : ops[i]? = some oi) (hd : oi.dst = some d)
    (hs : Region.noSelect ops = true) (hf : Region.free md ops listed i = true) (hr : (Region.ready md ops listed).contains i = true)
    (hQ : ∀ c a w, Q (.panic c) (a.put oi.dst v) w → Q (.panic c) a w) (hy : YieldsIf P ops S oi v ⟨l.toArray, ds⟩) (hS : S w)
    (h : wpAnyH P md ops Q S fuel (listed.setIfInBounds i true) ⟨(l.set d v).toArray, ds⟩ w) : wpAnyH P md ops Q S (fuel + 1) listed ⟨l.toArray, ds⟩ w := by
  refine wpAnyH_take hi hs hf hr hQ hy hS ?_
  rw [hd]
  simpa [Act.put] using h

variable {w w' : World} {o : Oper} {l : List Value} {ds : List Deferred} {K : Act → World → Prop} {E : Prop}

theorem wanted_plain (hgd : o.guard = none) (ts : Array Value) : Region.wanted o (yielded ops ts) = true := by simp [Region.wanted, hgd]

theorem step_val (d : Nat) {v : Value} (hgd : o.guard = none) (hd : o.dst = some d) (hr : (execOp (Act.eval ⟨l.toArray, ds⟩) o).run P w = .ok (.value v) w')
    (h : K ⟨(l.set d v).toArray, ds⟩ w') : if Region.wanted o (yielded ops (Act.mk l.toArray ds).tmps) = true then Oper.wp P o ⟨l.toArray, ds⟩ w K Q else E := by
  rw [if_pos (wanted_plain hgd _)]
  unfold Oper.wp
  rw [hr]
  show K (Act.put _ o.dst v) w'
  rw [hd]
  simpa [Act.put] using h

theorem step_skip' (hgd : o.guard = none) (hd : o.dst = none) (hr : (execOp (Act.eval ⟨l.toArray, ds⟩) o).run P w = .ok .skip w')
    (h : K ⟨l.toArray, ds⟩ w') : if Region.wanted o (yielded ops (Act.mk l.toArray ds).tmps) = true then Oper.wp P o ⟨l.toArray, ds⟩ w K Q else E := by
  rw [if_pos (wanted_plain hgd _)]
  unfold Oper.wp
  rw [hr]
  show K (Act.put _ o.dst undef) w'
  rw [hd]
  exact h

theorem step_enter (d f : Nat) (args : Array Value) (hgd : o.guard = none) (hd : o.dst = some d) (hr : (execOp (Act.eval ⟨l.toArray, ds⟩) o).run P w = .ok (.enter f args) w)
    (h : Calls P f args w fun e w' => ∃ r, e = .returned r ∧ K ⟨(l.set d r).toArray, ds⟩ w') : if Region.wanted o (yielded ops (Act.mk l.toArray ds).tmps) = true then Oper.wp P o ⟨l.toArray, ds⟩ w K Q else E := by
  rw [if_pos (wanted_plain hgd _)]
  unfold Oper.wp
  rw [hr]
  refine Calls.mono h fun e w' hk => ?_
  obtain ⟨r, rfl, hk⟩ := hk
  show K (Act.put _ o.dst r) w'
  rw [hd]
  simpa [Act.put] using hk

theorem exec_load {ρ : Operand → Value} (ty : TypeId) (x : Operand) {p v : Value} (ho : o.op = .load ty x) (hx : ρ x = p) (hr : (Instr.loadAt ty p).run P w = .ok v w) : (execOp ρ o).run P w = .ok (.value v) w := by
  unfold execOp
  simp only [ho, hx, Sem.run_bind, Sem.run_pure, Result.andThen_ok, hr]
theorem exec_store {ρ : Operand → Value} (ty : TypeId) (x y : Operand) {p v : Value} (ho : o.op = .store ty x y) (hx : ρ x = p) (hy : ρ y = v) (hr : (Instr.storeAt ty p v).run P w = .ok () w') : (execOp ρ o).run P w = .ok .skip w' := by
  unfold execOp
  simp only [ho, hx, hy, Sem.run_bind, Sem.run_pure, Result.andThen_ok, hr]
theorem exec_build {ρ : Operand → Value} (ty : TypeId) (fs : Array (Nat × Operand)) {gs : Array (Nat × Value)} {v : Value} (ho : o.op = .build ty fs) (hg : fs.map (fun (i, x) => (i, ρ x)) = gs) (hr : (Instr.build ty gs).run P w = .ok v w) : (execOp ρ o).run P w = .ok (.value v) w := by
  unfold execOp
  subst hg
  simp only [ho, Sem.run_bind, Sem.run_pure, Result.andThen_ok, hr]
theorem exec_box {ρ : Operand → Value} (ty : TypeId) (x : Operand) {p v : Value} (ho : o.op = .box ty x) (hx : ρ x = p) (hr : (Instr.box ty p).run P w = .ok v w') : (execOp ρ o).run P w = .ok (.value v) w' := by
  unfold execOp
  simp only [ho, hx, Sem.run_bind, Sem.run_pure, Result.andThen_ok, hr]
theorem exec_bslice {ρ : Operand → Value} (ty : TypeId) (n : Nat) (fs : Array (Nat × Operand)) {gs : Array (Nat × Value)} {v : Value} (ho : o.op = .buildSlice ty n fs) (hg : fs.map (fun (i, x) => (i, ρ x)) = gs) (hr : (Instr.buildSlice ty n gs).run P w = .ok v w') : (execOp ρ o).run P w = .ok (.value v) w' := by
  unfold execOp
  subst hg
  simp only [ho, Sem.run_bind, Sem.run_pure, Result.andThen_ok, hr]

theorem step_app (d : Nat) (hgd : o.guard = none) (hd : o.dst = some d) (s x : Operand) (t : TypeId)
    (ho : o.op = .call { callee := .builtin .append, args := #[s, x], argTypes := #[t, t] })
    (base : Nat) (e : TypeId) (i : TypeInfo) (z : Value) (bytes : Nat) (ht : P.underlying t = some (.slice e)) (hi : P.info? e = some i) (hz : i.zero = some z)
    (hsize : i.size = 1) (hby : i.bytes = bytes) (hzs : z.cells.size = 1)
    (v : Value) (n : Nat) (xs : List Value) (hs : Act.eval ⟨l.toArray, ds⟩ s = v) (hown : w.ownsRow base e 1 v n xs)
    (A : Option Addr) (m c : Nat) (news : List Value) (hx : Act.eval ⟨l.toArray, ds⟩ x = .slice A m c) (hr : Cells w A m news) (h1 : ∀ u ∈ news, u.oneCell' = true)
    (hbytes : (n + m) * bytes ≤ 140737488355328) (hpos : 0 < bytes) (hbase : base ≤ w.heap.size)
    (h : ∀ v' w', w'.ownsRow base e 1 v' (n + m) (xs ++ news) → w.grownBy w' v.ownBlock → (v'.ownBlock = v.ownBlock ∨ v'.ownBlock = some w.heap.size) → K ⟨(l.set d v').toArray, ds⟩ w') :
    if Region.wanted o (yielded ops (Act.mk l.toArray ds).tmps) = true then Oper.wp P o ⟨l.toArray, ds⟩ w K Q else E := by
  refine step_append_cells w hgd s x t ho base e i z bytes ht hi hz hsize hby hzs v n xs hs hown A m c news hx hr h1 hbytes hpos hbase fun v' w' h2 h3 h4 => ?_
  rw [hd]
  simpa [Act.put] using h v' w' h2 h3 h4
end
end Go.Proofs.YtkgihpebghmnbaaGreatDoor
