/- The number that bytes of a script come to. -/
import Derived.Test.YtafpgikhcjildaaGreatDoorLock
import Derived.LoopTactic
import Derived.WalkArith
namespace Go.Proofs.YtafpgikhcjildaaGreatDoor
open Go.RowKit Go.Proofs

set_option maxRecDepth 100000

theorem and128' (b : UInt8) (h : b.toNat < 128) : bits BinOp.and IntKind.u8 (b.toNat : Int) 128 = 0 := by
  have key : ∀ v : _root_.Fin 128, bits BinOp.and IntKind.u8 ((v.val : Nat) : Int) 128 = 0 := by decide +kernel
  exact key ⟨b.toNat, h⟩

theorem i64_or_nat (a b : Nat) (ha : a < 4611686018427387904) (hb : b < 4611686018427387904) : bits .or .i64 (a : Int) (b : Int) = ((a ||| b : Nat) : Int) := by
  have hx : a ||| b < 2 ^ 62 := Nat.or_lt_two_pow (by omega) (by omega)
  show IntKind.i64.wrap ((BitVec.ofInt 64 (a : Int) ||| BitVec.ofInt 64 (b : Int)).toNat : Int) = _
  rw [BitVec.toNat_or, ofInt_u64 a (by omega), ofInt_u64 b (by omega)]
  simp only [IntKind.wrap_i64, wrap64]
  omega

theorem leV_lt (bs : List UInt8) : leV bs < 256 ^ bs.length := by
  induction bs with
  | nil => simp [leV]
  | cons b bs ih =>
    have := b.toNat_lt
    simp only [leV, List.length_cons, Nat.pow_succ]
    omega

theorem leV_snoc (bs : List UInt8) (b : UInt8) : leV (bs ++ [b]) = leV bs + 256 ^ bs.length * b.toNat := by
  induction bs with
  | nil => simp [leV]
  | cons c bs ih =>
    simp only [leV, List.cons_append, List.length_cons, Nat.pow_succ, ih]
    rw [Nat.mul_add, Nat.add_assoc]
    congr 2
    rw [← Nat.mul_assoc, Nat.mul_comm 256]

theorem or_step (acc y k : Nat) (hk : k ≤ 4) (ha : acc < 256 ^ k) (hy : y < 256) : bits .or .i64 (acc : Int) (wrap64 ((y : Int) * 2 ^ (8 * k))) = ((acc + 256 ^ k * y : Nat) : Int) := by
  have e : (256 : Nat) ^ k = 2 ^ (8 * k) := by rw [Nat.pow_mul]
  have hb : 256 ^ k * y < 4611686018427387904 := by
    have : 256 ^ k ≤ 256 ^ 4 := Nat.pow_le_pow_right (by omega) hk
    calc 256 ^ k * y ≤ 256 ^ 4 * 255 := Nat.mul_le_mul this (by omega)
      _ < _ := by decide
  have ha2 : acc < 4611686018427387904 := by
    have : 256 ^ k ≤ 256 ^ 4 := Nat.pow_le_pow_right (by omega) hk
    omega
  have hw : wrap64 ((y : Int) * 2 ^ (8 * k)) = ((256 ^ k * y : Nat) : Int) := by
    have : (y : Int) * 2 ^ (8 * k) = ((256 ^ k * y : Nat) : Int) := by
      rw [e]; push_cast; exact Int.mul_comm _ _
    rw [this]
    simp only [wrap64]
    omega
  rw [hw, i64_or_nat _ _ ha2 hb]
  congr 1
  rw [Nat.or_comm, e, ← Nat.two_pow_add_eq_or_of_lt (by rw [← e]; exact ha), Nat.add_comm]

theorem makeNum_any (w : World) (b o c m : Nat) (bs : List UInt8) (hl : bs.length = m + 1) (hn : m ≤ 4)
    (hc : ∀ k, k < m + 1 → w.cell? ⟨b, o + k, none⟩ = some (.int .u8 (bs.getD k 0).toNat)) (hlast : (bs.getD m 0).toNat < 128) :
    Calls Tryz.prog 161 #[.slice (some ⟨b, o, none⟩) (m + 1) c, .bool false, .int .i64 5] w fun e w' => e = .returned (.tuple #[.int .i64 (leV bs), .nilIface]) ∧ w = w' := by
  have hn1 : (m : Int) ≤ 4 := by omega
  have hn3 : ¬ ((m : Int) + 1 = 0) := by omega
  have hm1 : ((m : Int) + 1 == 0) = false := by simp; omega
  have HC := Lib.hid hc
  have hlc : w.cell? ⟨b, o + m, none⟩ = some (.int .u8 (bs.getD m 0).toNat) := hc m (by omega)
  have hla := and128' _ hlast
  have hll := Lib.hid hl
  generalize hlv : ((bs.getD m 0).toNat : Int) = lv at hlc hla
  clear hlv
  clear hc hlast hl
  go_enter Tryz.func161, Tryz.ntmps161
  go_wp2
  go_loop [10, 31] (fun t i => ∃ k : Nat, k ≤ m + 1 ∧ i = .int .i64 k ∧ t = .int .i64 (leV (bs.take k))) (fun _ i => m + 1 - (intOf i).toNat)
  case atStart => exact ⟨0, Nat.zero_le _, rfl, rfl⟩
  case round =>
    obtain ⟨k, hk, rfl, rfl⟩ := hrel
    have hcell : (k : Int) < (m : Int) + 1 → w.cell? ⟨b, o + k, none⟩ = some (.int .u8 (bs.getD k 0).toNat) := fun h => HC.out k (by omega)
    have hy256 : (bs.getD k 0).toNat < 256 := (bs.getD k 0).toNat_lt
    generalize hx : leV (bs.take k) = acc at *
    generalize hy : (bs.getD k 0).toNat = y at *
    have HX := Lib.hid hx
    have HY := Lib.hid hy
    clear hx hy
    go_wp2
    · go_round
      case rel =>
        have hk' : k < m + 1 := by omega
        refine ⟨k + 1, by omega, by go_num, ?_⟩
        congr 1
        have hll' := hll.out
        have hX := HX.out
        have hY := HY.out
        have hlen : (bs.take k).length = k := by rw [List.length_take]; omega
        rw [or_step acc y k (by omega) (by have := leV_lt (bs.take k); rw [hlen, hX] at this; exact this) hy256]
        have ht : bs.take (k + 1) = bs.take k ++ [bs.getD k 0] := by
          rw [List.take_add_one]
          congr 1
          rw [List.getD_eq_getElem?_getD, List.getElem?_eq_getElem (by omega)]
          rfl
        rw [ht, leV_snoc, hX, hlen, hY]
      case measure => simp [intOf]; omega
    · go_ret2
      have hk' : k = m + 1 := by omega
      have hX := HX.out
      rw [List.take_of_length_le (by have := hll.out; omega)] at hX
      rw [hX]
      exact ⟨rfl, rfl⟩

theorem makeNum_nil (w : World) (A : Option Addr) (c : Nat) :
    Calls Tryz.prog 161 #[.slice A 0 c, .bool false, .int .i64 5] w fun e w' => e = .returned (.tuple #[.int .i64 0, .nilIface]) ∧ w = w' := by
  go_enter Tryz.func161, Tryz.ntmps161
  go_wp2
  go_ret2
  exact ⟨rfl, rfl⟩

/-- Bytes of a number that is none below 0, in five bytes at most. -/
def NumOk (xs : List UInt8) : Prop := xs.length ≤ 5 ∧ (xs.getLastD 0).toNat < 128

theorem makeNum_rd (w : World) (B : Nat) (A : Option Addr) (c : Nat) (xs : List UInt8) (h : Rd B w (.slice A xs.length c) xs) (hx : NumOk xs) :
    Calls Tryz.prog 161 #[.slice A xs.length c, .bool false, .int .i64 5] w fun e w' => e = .returned (.tuple #[.int .i64 (leV xs), .nilIface]) ∧ w = w' := by
  cases hl : xs.length with
  | zero =>
    have : xs = [] := List.eq_nil_of_length_eq_zero hl
    subst this
    exact makeNum_nil w A c
  | succ m =>
    obtain ⟨b, o, rfl, -⟩ := h.cell (j := 0) (by omega)
    refine makeNum_any w b o c m xs hl (by have := hx.1; omega) (fun k hk => ?_) ?_
    · obtain ⟨b', o', e, hc⟩ := h.cell (j := k) (by omega)
      injection e with e
      injection e with e1 e2
      subst e1; subst e2
      exact hc
    · have := hx.2
      rw [List.getLastD_eq_getLast?, List.getLast?_eq_getElem?] at this
      rw [hl] at this
      simpa [List.getD_eq_getElem?_getD] using this

/-- CHECKLOCKTIMEVERIFY. -/
theorem cltv_vm (w : World) (g : Nat) (B : Bd) (l n c tb ib io : Nat) (cs : Array Value) (xss : List (List UInt8)) (xs : List UInt8) (op data : Value) (h : Vm w g B cs (xss ++ [xs])) (hn : xss.length ≤ 100000)
    (hx : NumOk xs) (hl : l < 4294967296)
    (hfl : cs[0]? = some (.int .u32 8)) (hmd : cs[24]? = some (.bool false)) (hlt : cs[4]? = some (.int .u32 l)) (hti : cs[2]? = some (.slice (some ⟨tb, 0, none⟩) (n + 1) c)) (hid : cs[5]? = some (.int .i64 0))
    (hrow : w.cell? ⟨tb, 0, none⟩ = some (.pointer (some ⟨ib, io, none⟩))) (hseq : w.cell? ⟨ib, io + 35, none⟩ = some (.int .u32 100)) :
    Calls Tryz.prog 90 #[op, data, .pointer (some ⟨g, 0, none⟩)] w fun e w' => ∃ r, e = .returned r ∧
      ((r = .nilIface ∧ Met (leV xs) l) ∨ (Fault r ∧ ¬ Met (leV xs) l)) ∧ Below w.heap.size w w' := by
  have hbl := h.blk.lt
  have c0 := (h.blk.cell 0).trans hfl
  have c2 := (h.blk.cell 2).trans hti
  have c4 := (h.blk.cell 4).trans hlt
  have c5 := (h.blk.cell 5).trans hid
  have c24 := (h.blk.cell 24).trans hmd
  have hib := World.block_lt_of_cell? w _ hseq
  have HP := Lib.hid (peek_vm w g B cs xss xs h hn)
  have HF := Lib.hid (hasFlag_any w g 8 8 8 (by decide) c0)
  have hv : leV xs < 1099511627776 := by
    have h1 := leV_lt xs
    have h2 : 256 ^ xs.length ≤ 256 ^ 5 := Nat.pow_le_pow_right (by omega) hx.1
    omega
  have HX := Lib.hid hx
  clear h hx hfl hmd hlt hti hid
  go_enter Tryz.func90, Tryz.ntmps90
  go_wp2_with fail
  refine HF.out.mono ?_
  rintro e w1 ⟨rfl, rfl⟩
  go_wp2_with fail
  refine HP.out.mono ?_
  rintro e w1 ⟨A, cc, rfl, hrd, rfl⟩
  have hrd := Lib.hid hrd
  go_wp2_with fail
  refine (makeNum_rd _ 0 A cc xs hrd.out HX.out).mono ?_
  rintro e w1 ⟨rfl, rfl⟩
  have hneg : ¬ ((leV xs : Int) < 0) := by omega
  go_wp2_with fail
  refine (verifyLock_any _ l (leV xs) (by omega) (by omega) (by omega) (by omega)).mono ?_
  rintro e w1 ⟨r, rfl, hb, hr⟩
  have HB := Lib.hid hb
  rcases hr with ⟨rfl, hm⟩ | ⟨⟨cd, s, rfl, h1, h2⟩, hm⟩
  · have c2' : w1.cell? ⟨g, 2, none⟩ = _ := (World.cell?_of_block (w := w) (hb.block g hbl)).trans c2
    have c5' : w1.cell? ⟨g, 5, none⟩ = _ := (World.cell?_of_block (w := w) (hb.block g hbl)).trans c5
    have hrow' : w1.cell? ⟨tb, 0, none⟩ = _ := (World.cell?_of_block (w := w) (hb.block tb (World.block_lt_of_cell? w _ hrow))).trans hrow
    have hseq' : w1.cell? ⟨ib, io + 35, none⟩ = _ := (World.cell?_of_block (w := w) (hb.block ib hib)).trans hseq
    have hbl' : g < w1.heap.size := Nat.lt_of_lt_of_le hbl hb.size
    have hib' : ib < w1.heap.size := Nat.lt_of_lt_of_le hib hb.size
    have HM := Lib.hid hm
    clear hb hm
    go_wp2
    go_quiet (fail)
    go_wp2
    go_ret
    have HB' := HB.out
    exact ⟨.nilIface, rfl, .inl ⟨rfl, HM.out⟩, ⟨HB'.os, HB'.tape, HB'.output, HB'.size, HB'.block⟩⟩
  · have HM := Lib.hid hm
    clear hb hm
    go_wp2
    go_ret
    exact ⟨_, rfl, .inr ⟨⟨cd, s, rfl, h1, h2⟩, HM.out⟩, HB.out⟩
end Go.Proofs.YtafpgikhcjildaaGreatDoor
