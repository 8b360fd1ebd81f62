/- SHA-256: Write. -/
import Derived.Test.YtkgihpebghmnbaaGreatDoorG18
namespace Go.Proofs.YtkgihpebghmnbaaGreatDoor
open Go.RowKit Go.Proofs

set_option maxRecDepth 100000

theorem blockf_any (kc : Nat → Int) (w : World) (d b o N n c : Nat) (s : Sh) (p : Nat → Nat) (hn : n = 64 * N) (hc : n ≤ c) (hd : Dg w d s) (hk : KT kc w) (hp : ∀ j, j < 64 * N → w.cell? ⟨b, o + j, none⟩ = some (.int .u8 (p j))) (hb : b < w.heap.size) (hG : 3 ≠ d) :
    Calls Tryz.prog 298 #[.pointer (some ⟨d, 0, none⟩), .slice (some ⟨b, o, none⟩) n c] w fun e w' => e = .returned (.tuple #[]) ∧ Dg w' d { s with r := (blks kc p (fun _ => 0, s.r) N).2 } ∧ Fm (M1 d) w w' := by
  obtain ⟨cx, rfl⟩ : ∃ cx, c = n + cx := ⟨c - n, by omega⟩
  subst hn
  have H := Lib.hid (block_any kc w d b o N 0 cx s p (by omega) hd hk hp hb hG)
  clear hd hk hp
  go_enter Tryz.func298, Tryz.ntmps298
  go_wp2_with fail
  refine H.out.mono ?_
  rintro e w1 ⟨rfl, h1, h2⟩
  have H1 := Lib.hid h1
  have H2 := Lib.hid h2
  clear h1 h2
  go_wp2
  go_end0
  exact ⟨rfl, H1.out, H2.out⟩

theorem KT.fm {kc : Nat → Int} {w w' : World} {d : Nat} (h : KT kc w) (hf : Fm (M1 d) w w') (hG : 3 ≠ d) : KT kc w' := fun i hi => (World.cell?_of_block (w := w) (hf.block _ (World.block_lt_of_cell? w _ (h i hi)) hG)).trans (h i hi)

theorem sub_big (c j c3 : Nat) (h : c - 64 * j = 65536 + c3) : c - 64 * (j + 1024) = c3 := by
  have e : 64 * (j + 1024) = 64 * j + 65536 := by omega
  rw [e, Nat.sub_add_eq, h]
  generalize 65536 = q
  omega

/-- The relation of the loop over great pieces. -/
def BigRel (kc : Nat → Int) (W : World) (d b o n c N : Nat) (S : Sh) (bs : List UInt8) (k : Nat) (s1 s7 : Value) (wx : World) : Prop :=
  ∃ (j f : Nat) (r : R8), k = N - j + 1 ∧ j < N ∧ s1 = .slice (some ⟨b, o + 64 * j, none⟩) (n - 64 * j) (c - 64 * j) ∧ s7 = .int .i64 (64 * (N - j) : Nat) ∧ Dg wx d { S with r := r } ∧ Fm (M1 d) W wx ∧ N - j ≤ f ∧ bigs kc f (N - j) r (bs.drop (64 * j)) = bigs kc N N S.r bs

set_option maxHeartbeats 2000000 in
theorem write_any (kc : Nat → Int) (w : World) (d n c : Nat) (A : Option Addr) (bs : List UInt8) (s : Sh) (hd : Dg w d s) (hnx : s.nx < 64) (hlen : s.len < 18446744073709551616) (hk : KT kc w) (hG : 3 ≠ d) (hc : Cells w A n (bv bs)) (hnd : ∀ b o, A = some ⟨b, o, none⟩ → b ≠ d) (hcc : n ≤ c) (hn : n ≤ 1000000) :
    Calls Tryz.prog 295 #[.pointer (some ⟨d, 0, none⟩), .slice A n c] w fun e w' => e = .returned (.tuple #[.int .i64 n, .nilIface]) ∧ Dg w' d (s.feed kc bs) ∧ Fm (M1 d) w w' := by
  have l0 := (hd.1.cell 73).trans (Sh.cell_len hd.2)
  have x0 := (hd.1.cell 72).trans (Sh.cell_nx hd.2)
  have hfz := hd.1.frozen
  have HD := Lib.hid hd
  have HC := Lib.hid hc
  have HK := Lib.hid hk
  clear hd hc hk
  go_enter Tryz.func295, Tryz.ntmps295
  have hbn : bs.length = n := by have := HC.out.1; rw [bv_length] at this; exact this
  have hlw : IntKind.u64.wrap ((s.len : Int) + (n : Int)) = (((s.len + n) % 18446744073709551616 : Nat) : Int) := by
    rw [IntKind.wrap_u64]
    omega
  have hW : Dg (w.setCell ⟨d, 73, none⟩ (.int .u64 (((s.len + n) % 18446744073709551616 : Nat) : Int))) d { s with len := (s.len + n) % 18446744073709551616 } := by
    have h := HD.out.1.set_ 73 (.int .u64 (((s.len + n) % 18446744073709551616 : Nat) : Int))
    rw [Sh.set_len HD.out.2] at h
    exact ⟨h, HD.out.2⟩
  have hF : Fm (M1 d) w (w.setCell ⟨d, 73, none⟩ (.int .u64 (((s.len + n) % 18446744073709551616 : Nat) : Int))) := (Fm.refl _ _).set1 73 _
  have hfeed : s.feed kc bs = if s.nx = 0 then Sh.rest kc { s with len := (s.len + n) % 18446744073709551616 } bs else if s.nx + n < 64 then { s with x := lay s.x s.nx bs, nx := s.nx + n, len := (s.len + n) % 18446744073709551616 } else Sh.rest kc { s with r := comps kc s.r (lay s.x s.nx (bs.take (64 - s.nx))) 1, x := lay s.x s.nx (bs.take (64 - s.nx)), nx := 0, len := (s.len + n) % 18446744073709551616 } (bs.drop (64 - s.nx)) := by
    unfold Sh.feed
    rw [hbn]
  rw [hfeed]
  generalize hLN : (s.len + n) % 18446744073709551616 = ln at *
  have HLN := Lib.hid hLN
  have HW := Lib.hid hW
  have HF := Lib.hid hF
  clear hW hF hLN hfeed
  by_cases h0 : s.nx = 0
  · rw [h0] at x0
    rw [if_pos h0]
    by_cases h1 : n = 0
    · subst h1
      have hbs : bs = [] := List.eq_nil_of_length_eq_zero hbn
      subst hbs
      have e : ln = s.len := by have := HLN.out; omega
      subst e
      go_wp2
      go_ret2
      exact ⟨rfl, HW.out, HF.out⟩
    by_cases h2 : n < 64
    · have i1 : ¬ (64 : Int) ≤ (n : Int) := by omega
      have i2 : (0 : Int) < (n : Int) := by omega
      obtain ⟨W2, hrun, hd2, hf2⟩ := copy_dg (w.setCell ⟨d, 73, none⟩ (.int .u64 (ln : Int))) d 0 64 64 n c n 8 A bs _ HW.out rfl rfl (HC.out.fm HF.out (fun b o e h => hnd b o e h)) (by omega) (Nat.min_eq_left (by omega)).symm
      have x2 := (hd2.1.cell 72).trans (Sh.cell_nx hd2.2)
      have hfz2 := hd2.1.frozen
      have HD2 := Lib.hid hd2
      have HF2 := Lib.hid hf2
      clear hd2 hf2
      go_wp2
      go_ret2
      have hset := HD2.out.1.set_ 72 (.int .i64 (n : Int))
      rw [Sh.set_nx HD2.out.2] at hset
      rw [Sh.rest_small kc _ bs (by omega) (by omega)]
      have ht : bs.take n = bs := List.take_of_length_le (by omega)
      have HDD := HD2.out.2
      rw [ht] at hset HDD
      rw [hbn]
      exact ⟨rfl, ⟨hset, HDD⟩, (HF.out.trans HF2.out).set1 72 _⟩
    · have i1 : (64 : Int) ≤ (n : Int) := by omega
      have ha := andNot63 n hn
      obtain ⟨b, o, rfl, hcell⟩ := HC.out.2 (by omega)
      have hbd : b ≠ d := hnd b o rfl
      have hbl : b < w.heap.size := by
        have h := hcell 0 (.int .u8 (bs.getD 0 0).toNat) (by rw [bv_get]; simp [List.getD_eq_getElem?_getD, List.getElem?_eq_getElem (show 0 < bs.length by omega)])
        exact World.block_lt_of_cell? w _ h
      have HBY : Hid (∀ j, j < n → w.cell? ⟨b, o + j, none⟩ = some (.int .u8 (bs.getD j 0).toNat)) := fun j hj => hcell j _ (by rw [bv_get]; simp [List.getD_eq_getElem?_getD, List.getElem?_eq_getElem (show j < bs.length by omega)])
      generalize hN : n / 64 = N at *
      clear hcell hnd
      go_wp2_with fail
      generalize w.setCell ⟨d, 73, none⟩ (.int .u64 (ln : Int)) = W at *
      go_loopg [1, 7] (N + 1) (fun k s1 s7 wx => BigRel kc W d b o n c N { s with len := ln } bs k s1 s7 wx)
      case atStart => exact ⟨0, N, s.r, rfl, by omega, rfl, rfl, HW.out, Fm.refl _ _, Nat.le_refl _, rfl⟩
      case round =>
        obtain ⟨j, f, r, rfl, hj, rfl, rfl, hdx, hfx, hfN, hbg⟩ := hrel
        have HDX := Lib.hid hdx
        have HFX := Lib.hid hfx
        have HBG := Lib.hid hbg
        clear hdx hfx hbg
        by_cases hbig : 1024 < N - j
        · obtain ⟨m3, hm3⟩ : ∃ m3, n - 64 * j = 65536 + m3 := ⟨n - 64 * j - 65536, by omega⟩
          obtain ⟨c3, hc3⟩ : ∃ c3, c - 64 * j = 65536 + c3 := ⟨c - 64 * j - 65536, by omega⟩
          obtain ⟨L, hL⟩ : ∃ L, 64 * (N - j) = 65536 + L := ⟨64 * (N - j) - 65536, by omega⟩
          have hbd2 : ∀ q, q < n - 64 * j → wr.cell? ⟨b, o + 64 * j + q, none⟩ = some (.int .u8 (bs.getD (64 * j + q) 0).toNat) := fun q hq => by
            have h := HBY.out (64 * j + q) (by omega)
            rw [← Nat.add_assoc] at h
            have hF2 := HF.out.trans HFX.out
            exact (World.cell?_of_block (w := w) (hF2.block b hbl hbd)).trans h
          rw [hL, hm3, hc3]
          obtain ⟨oj, hoj⟩ : ∃ oj, o + 64 * j = oj := ⟨_, rfl⟩
          have HB := Lib.hid (blockf_any kc wr d b oj 1024 65536 (65536 + c3) _ (fun q => ((bs.drop (64 * j)).getD q 0).toNat) (by omega) (by omega) HDX.out ((HK.out.fm HF.out hG).fm HFX.out hG) (fun q hq => by
            rw [← hoj]
            have h := hbd2 q (by omega)
            rw [h]
            simp [List.getD_eq_getElem?_getD]) (Nat.lt_of_lt_of_le hbl (Nat.le_trans HF.out.size HFX.out.size)) hG)
          rw [hoj]
          have i3 : (0 : Int) < (L : Int) := by omega
          have i8 : ¬ c3 = 0 := by omega
          clear hbd2
          go_wp2_with fail
          refine HB.out.mono ?_
          rintro e w3 ⟨rfl, hd3, hf3⟩
          have HD3 := Lib.hid hd3
          have HF3 := Lib.hid hf3
          clear hd3 hf3 HB
          go_wp2_with fail
          go_roundg (N - (j + 1024) + 1)
          case measure => omega
          case rel =>
            refine ⟨j + 1024, f - 1, comps kc r (bs.drop (64 * j)) 1024, by omega, by omega, ?_, ?_, HD3.out, HFX.out.trans HF3.out, by omega, ?_⟩
            · have e1 : o + 64 * (j + 1024) = oj + 65536 := by omega
              have e2 : n - 64 * (j + 1024) = m3 := by omega
              have e3 : c - 64 * (j + 1024) = c3 := sub_big c j c3 hc3
              rw [e1, e2, e3]
            · have e4 : 64 * (N - (j + 1024)) = L := by omega
              rw [e4]
              congr 1
              omega
            · have hb := HBG.out
              obtain ⟨f', rfl⟩ : ∃ f', f = f' + 1 := ⟨f - 1, by omega⟩
              rw [bigs_succ kc f' _ r _ hbig, List.drop_drop] at hb
              have e5 : 64 * (j + 1024) = 64 * j + 65536 := by omega
              have e6 : N - (j + 1024) = N - j - 1024 := by omega
              rw [e5, e6, Nat.add_sub_cancel]
              exact hb
        · obtain ⟨L, hL⟩ : ∃ L, 64 * (N - j) = L := ⟨_, rfl⟩
          obtain ⟨m3, hm3⟩ : ∃ m3, n - 64 * j = L + m3 := ⟨n - 64 * j - L, by omega⟩
          obtain ⟨c3, hc3⟩ : ∃ c3, c - 64 * j = L + c3 := ⟨c - 64 * j - L, by omega⟩
          have hmc3 : m3 ≤ c3 := by omega
          have hm64 : m3 < 64 := by omega
          have hbd2 : ∀ (w' : World), Fm (M1 d) W w' → ∀ q, q < n - 64 * j → w'.cell? ⟨b, o + 64 * j + q, none⟩ = some (.int .u8 (bs.getD (64 * j + q) 0).toNat) := fun w' hf q hq => by
            have h := HBY.out (64 * j + q) (by omega)
            rw [← Nat.add_assoc] at h
            have hF2 := HF.out.trans hf
            exact (World.cell?_of_block (w := w) (hF2.block b hbl hbd)).trans h
          rw [hL, hm3, hc3]
          obtain ⟨oj, hoj⟩ : ∃ oj, o + 64 * j = oj := ⟨_, rfl⟩
          have HB := Lib.hid (blockf_any kc wr d b oj (N - j) L (L + c3) _ (fun q => ((bs.drop (64 * j)).getD q 0).toNat) hL.symm (by omega) HDX.out ((HK.out.fm HF.out hG).fm HFX.out hG) (fun q hq => by
            rw [← hoj]
            have h := hbd2 wr HFX.out q (by omega)
            rw [h]
            simp [List.getD_eq_getElem?_getD]) (Nat.lt_of_lt_of_le hbl (Nat.le_trans HF.out.size HFX.out.size)) hG)
          rw [hoj]
          have i3 : ¬ (65536 : Int) < (L : Int) := by omega
          have i4 : (0 : Int) ≤ (L : Int) := by omega
          have i5 : (L : Int) ≤ (L : Int) + (c3 : Int) := by omega
          have i6 : (L : Int) ≤ (L : Int) + (m3 : Int) := by omega
          have HBD := Lib.hid hbd2
          clear hbd2
          go_wp2_with fail
          refine HB.out.mono ?_
          rintro e w3 ⟨rfl, hd3, hf3⟩
          have HD3 := Lib.hid hd3
          have HF3 := Lib.hid hf3
          clear hd3 hf3 HB
          by_cases hm0 : m3 = 0
          · subst hm0
            by_cases hc0 : c3 = 0
            · subst hc0
              go_wp2
              go_ret2
              refine ⟨rfl, ?_, (HF.out.trans HFX.out).trans HF3.out⟩
              rw [Sh.rest_even kc _ bs N (by rw [hbn]; exact hN) (by omega) (by omega)]
              rw [← HBG.out, bigs_small kc f _ r _ hbig]
              exact HD3.out
            · skip
              go_wp2
              go_ret2
              refine ⟨rfl, ?_, (HF.out.trans HFX.out).trans HF3.out⟩
              rw [Sh.rest_even kc _ bs N (by rw [hbn]; exact hN) (by omega) (by omega)]
              rw [← HBG.out, bigs_small kc f _ r _ hbig]
              exact HD3.out
          · skip
            have htl : (bs.drop (64 * N)).length = m3 := by rw [List.length_drop]; omega
            have hct : Cells w3 (some ⟨b, oj + L, none⟩) m3 (bv (bs.drop (64 * N))) := ⟨by rw [bv_length, htl], fun _ => ⟨b, oj + L, rfl, fun q u hq => by
              have hql : q < m3 := by
                have := (List.getElem?_eq_some_iff.1 hq).1
                rw [bv_length, htl] at this
                exact this
              have h := HBD.out w3 (HFX.out.trans HF3.out) (L + q) (by omega)
              rw [hoj, ← Nat.add_assoc] at h
              rw [h, ← hq, bv_get]
              have e1 : 64 * j + (L + q) = 64 * N + q := by omega
              rw [e1, List.getElem?_drop, List.getD_eq_getElem?_getD, List.getElem?_eq_getElem (show 64 * N + q < bs.length by omega)]
              rfl⟩⟩
            obtain ⟨W2, hrun, hd4, hf4⟩ := copy_dg w3 d 0 64 64 m3 c3 m3 8 _ _ _ HD3.out rfl rfl hct (by omega) (Nat.min_eq_left (by omega)).symm
            have x4 := (hd4.1.cell 72).trans (Sh.cell_nx hd4.2)
            have hfz4 := hd4.1.frozen
            have HD4 := Lib.hid hd4
            have HF4 := Lib.hid hf4
            clear hd4 hf4 hct
            have i7 : (0 : Int) < (m3 : Int) := by omega
            have i8 : ¬ c3 = 0 := by omega
            go_wp2
            go_ret2
            refine ⟨rfl, ?_, (((HF.out.trans HFX.out).trans HF3.out).trans HF4.out).set1 72 _⟩
            rw [Sh.rest_odd kc _ bs N (by rw [hbn]; exact hN) (by omega) (by omega)]
            rw [← HBG.out, bigs_small kc f _ r _ hbig]
            have hset := HD4.out.1.set_ 72 (.int .i64 (m3 : Int))
            rw [Sh.set_nx HD4.out.2] at hset
            have ht : (bs.drop (64 * N)).take m3 = bs.drop (64 * N) := List.take_of_length_le (by omega)
            have HDD := HD4.out.2
            rw [ht] at hset HDD
            rw [htl]
            exact ⟨hset, HDD⟩
  · have h1 : (0 : Int) < s.nx := by omega
    rw [if_neg h0]
    have W0 := HW.out
    have xW := (W0.1.cell 72).trans (Sh.cell_nx W0.2)
    have fW := W0.1.frozen
    by_cases hn0 : n = 0
    · subst hn0
      have hbs : bs = [] := List.eq_nil_of_length_eq_zero hbn
      subst hbs
      have e : ln = s.len := by have := HLN.out; omega
      subst e
      rw [if_pos (by omega)]
      have hrun := run_copy_none (P := Tryz.prog) (w.setCell ⟨d, 73, none⟩ (.int .u64 (s.len : Int))).drew 30 30 3 5 (some ⟨d, 8 + s.nx, none⟩) A (64 - s.nx) (64 - s.nx) 0 c Tryz.underlying30 info_u8s (by simp)
      have i1 : (s.nx : Int) ≤ 64 := by omega
      have i3 : ¬ (s.nx : Int) = 64 := by omega
      go_wp2_with fail
      go_region_held3 (fun w' => w'.cell? ⟨d, 72, none⟩ = some (.int .i64 s.nx)) ((first | exact xW)) (fail)
      go_wp2
      go_ret2
      have hset := HW.out.1.set_ 72 (.int .i64 (s.nx : Int))
      rw [Sh.set_nx HW.out.2] at hset
      have hl : lay s.x s.nx [] = s.x := by simp [lay]
      rw [hl, Nat.add_zero]
      first
        | exact ⟨rfl, ⟨hset, HW.out.2⟩, HF.out.set1 72 _⟩
        | exact ⟨rfl, ⟨hset.drew, HW.out.2⟩, (HF.out.set1 72 _).drew⟩
    obtain ⟨c3, rfl⟩ : ∃ c3, c = n + c3 := ⟨c - n, by omega⟩
    by_cases hs : s.nx + n < 64
    · rw [if_pos hs]
      obtain ⟨W2, hrun, hd2, hf2⟩ := copy_dg (w.setCell ⟨d, 73, none⟩ (.int .u64 (ln : Int))).drew d s.nx (64 - s.nx) (64 - s.nx) n (n + c3) n (8 + s.nx) A bs _ (show Dg (w.setCell ⟨d, 73, none⟩ (.int .u64 (ln : Int))).drew d _ from HW.out) rfl (by omega) (HC.out.fm (HF.out.drew) (fun b o e h => hnd b o e h)) (by omega) (Nat.min_eq_left (by omega)).symm
      have x2 := (hd2.1.cell 72).trans (Sh.cell_nx hd2.2)
      have hfz2 := hd2.1.frozen
      have HD2 := Lib.hid hd2
      have HF2 := Lib.hid (HF.out.drew.trans hf2)
      clear hd2 hf2 W0
      have i1 : (s.nx : Int) ≤ 64 := by omega
      have i2 : IntKind.i64.wrap ((s.nx : Int) + (n : Int)) = (s.nx : Int) + (n : Int) := by
        simp only [IntKind.wrap_i64]
        omega
      have i3 : ¬ (s.nx : Int) + (n : Int) = 64 := by omega
      have i4 : (n : Int) ≤ (n : Int) + (c3 : Int) := by omega
      have hset := HD2.out.1.set_ 72 (.int .i64 ((s.nx : Int) + (n : Int)))
      have e2 : ((s.nx : Int) + (n : Int)) = ((s.nx + n : Nat) : Int) := by omega
      rw [e2, Sh.set_nx HD2.out.2] at hset
      rw [← e2] at hset
      have x3 := (hset.cell 72).trans (Sh.cell_nx (s := { ({ s with len := ln } : Sh) with x := lay s.x s.nx (bs.take n), nx := s.nx + n }) HD2.out.2)
      rw [← e2] at x3
      have HSET := Lib.hid hset
      clear hset e2
      go_wp2_with fail
      go_region_held3 (fun w' => w'.cell? ⟨d, 72, none⟩ = some (.int .i64 s.nx)) ((first | exact x2 | exact xW)) (fail)
      by_cases hc0 : c3 = 0
      · subst hc0
        go_wp2
        go_ret2
        have ht : bs.take n = bs := List.take_of_length_le (by omega)
        have hq := HSET.out
        have hx := HD2.out.2
        rw [ht] at hq hx
        exact ⟨rfl, ⟨hq, hx⟩, HF2.out.set1 72 _⟩
      · skip
        go_wp2
        go_ret2
        have ht : bs.take n = bs := List.take_of_length_le (by omega)
        have hq := HSET.out
        have hx := HD2.out.2
        rw [ht] at hq hx
        exact ⟨rfl, ⟨hq, hx⟩, HF2.out.set1 72 _⟩
    · skip
      rw [if_neg hs]
      obtain ⟨k0, hk0⟩ : ∃ k0, 64 - s.nx = k0 := ⟨_, rfl⟩
      obtain ⟨m, rfl⟩ : ∃ m, n = k0 + m := ⟨n - k0, by omega⟩
      obtain ⟨b, o, rfl, hcell⟩ := HC.out.2 (by omega)
      have hbd : b ≠ d := hnd b o rfl
      have hbl : b < w.heap.size := by
        have h := hcell 0 (.int .u8 (bs.getD 0 0).toNat) (by rw [bv_get]; simp [List.getD_eq_getElem?_getD, List.getElem?_eq_getElem (show 0 < bs.length by omega)])
        exact World.block_lt_of_cell? w _ h
      have HBY : Hid (∀ j, j < k0 + m → w.cell? ⟨b, o + j, none⟩ = some (.int .u8 (bs.getD j 0).toNat)) := fun j hj => hcell j _ (by rw [bv_get]; simp [List.getD_eq_getElem?_getD, List.getElem?_eq_getElem (show j < bs.length by omega)])
      clear hcell
      obtain ⟨W2, hrun, hd2, hf2⟩ := copy_dg (w.setCell ⟨d, 73, none⟩ (.int .u64 (ln : Int))).drew d s.nx k0 k0 (k0 + m) (k0 + m + c3) k0 (8 + s.nx) _ bs _ (show Dg (w.setCell ⟨d, 73, none⟩ (.int .u64 (ln : Int))).drew d _ from HW.out) rfl (by omega) (HC.out.fm (HF.out.drew) (fun b o e h => hnd b o e h)) (by omega) (Nat.min_eq_right (by omega)).symm
      rw [hk0]
      obtain ⟨S5, hS5⟩ : ∃ S5 : Sh, S5 = { r := comps kc s.r (lay s.x s.nx (bs.take k0)) 1, x := lay s.x s.nx (bs.take k0), nx := 0, len := ln } := ⟨_, rfl⟩
      obtain ⟨rs, hrsd⟩ : ∃ rs, bs.drop k0 = rs := ⟨_, rfl⟩
      have hrs : rs.length = m := by rw [← hrsd, List.length_drop]; omega
      have hs5 : ({ r := comps kc s.r (lay s.x s.nx (bs.take k0)) 1, x := lay s.x s.nx (bs.take k0), nx := 0, len := ln } : Sh) = S5 := hS5.symm
      rw [hs5, hrsd]
      have x2 := (hd2.1.cell 72).trans (Sh.cell_nx hd2.2)
      have hfz2 := hd2.1.frozen
      have HD2 := Lib.hid hd2
      have HF2 := Lib.hid (HF.out.drew.trans hf2)
      clear hd2 hf2 W0 hnd
      have hnx1 : (s.nx : Int) ≤ 64 := by omega
      have hlw2 : IntKind.u64.wrap ((s.len : Int) + ((k0 : Int) + (m : Int))) = (ln : Int) := by
        rw [show (s.len : Int) + ((k0 : Int) + (m : Int)) = (s.len : Int) + ((k0 + m : Nat) : Int) by omega]
        exact hlw
      have i2 : IntKind.i64.wrap ((s.nx : Int) + (k0 : Int)) = 64 := by
        simp only [IntKind.wrap_i64]
        omega
      have i4 : (k0 : Int) ≤ (k0 : Int) + (m : Int) := by omega
      have i5 : (k0 : Int) ≤ (k0 : Int) + (m : Int) + (c3 : Int) := by omega
      have hset : Dg (W2.setCell ⟨d, 72, none⟩ (.int .i64 64)) d { r := s.r, x := lay s.x s.nx (bs.take k0), nx := 64, len := ln } := by
        have h := HD2.out.1.set_ 72 (.int .i64 ((64 : Nat) : Int))
        rw [Sh.set_nx HD2.out.2] at h
        exact ⟨h, HD2.out.2⟩
      have x3 := (hset.1.cell 72).trans (Sh.cell_nx hset.2)
      have f3 : Fm (M1 d) w (W2.setCell ⟨d, 72, none⟩ (.int .i64 64)) := HF2.out.set1 72 _
      have hdl := hset.1.lt
      have HBK := Lib.hid (blockf_any kc (W2.setCell ⟨d, 72, none⟩ (.int .i64 64)) d d 8 1 64 64 _ (fun q => ((lay s.x s.nx (bs.take k0)).getD q 0).toNat) (by omega) (by omega) hset (HK.out.fm f3 hG) (fun q hq => (hset.1.cell (8 + q)).trans (Sh.cell_x hset.2 (by omega))) hdl hG)
      have F3 := Lib.hid f3
      clear hset f3 hdl
      go_wp2_with fail
      go_region_held3 (fun w' => w'.cell? ⟨d, 72, none⟩ = some (.int .i64 s.nx)) ((first | exact x2 | exact xW)) (fail)
      go_wp2_with fail
      refine HBK.out.mono ?_
      rintro e w3 ⟨rfl, hd3, hf3⟩
      have x5 := (hd3.1.cell 72).trans (Sh.cell_nx hd3.2)
      have fz5 := hd3.1.frozen
      have h5 : Dg (w3.setCell ⟨d, 72, none⟩ (.int .i64 0)) d S5 := by
        have h := hd3.1.set_ 72 (.int .i64 ((0 : Nat) : Int))
        rw [Sh.set_nx hd3.2] at h
        rw [hS5]
        exact ⟨h, hd3.2⟩
      have HW5 := Lib.hid h5
      have HF5 := Lib.hid ((F3.out.trans hf3).set1 72 (.int .i64 0))
      obtain ⟨o2, ho2⟩ : ∃ o2, o + k0 = o2 := ⟨_, rfl⟩
      have HBY2 : Hid (∀ j, j < m → w.cell? ⟨b, o2 + j, none⟩ = some (.int .u8 (rs.getD j 0).toNat)) := fun j hj => by
        have h := HBY.out (k0 + j) (by omega)
        rw [← Nat.add_assoc, ho2] at h
        rw [h, ← hrsd]
        simp [List.getD_eq_getElem?_getD]
      clear HBY HBK h5 hd3 hf3 hS5 hs5
      by_cases hm0 : m = 0
      · subst hm0
        have hr0 : rs = [] := List.eq_nil_of_length_eq_zero hrs
        subst hr0
        by_cases hc0 : c3 = 0
        · subst hc0
          go_wp2
          go_ret2
          exact ⟨rfl, HW5.out, HF5.out⟩
        · go_wp2
          go_ret2
          exact ⟨rfl, HW5.out, HF5.out⟩
      have hc5 : ¬ m + c3 = 0 := by omega
      by_cases hm1 : m < 64
      · have j1 : ¬ (64 : Int) ≤ (m : Int) := by omega
        have j2 : (0 : Int) < (m : Int) := by omega
        have hcap : k0 + m + c3 - k0 = m + c3 := by omega
        have hct : Cells (w3.setCell ⟨d, 72, none⟩ (.int .i64 0)) (some ⟨b, o2, none⟩) m (bv rs) := ⟨by rw [bv_length, hrs], fun _ => ⟨b, o2, rfl, fun q u hq => by
          have hql : q < m := by
            have := (List.getElem?_eq_some_iff.1 hq).1
            rw [bv_length, hrs] at this
            exact this
          have h := (World.cell?_of_block (w := w) (HF5.out.block b hbl hbd)).trans (HBY2.out q hql)
          rw [h, ← hq, bv_get, List.getD_eq_getElem?_getD, List.getElem?_eq_getElem (show q < rs.length by omega)]
          rfl⟩⟩
        obtain ⟨W7, hrun7, hd7, hf7⟩ := copy_dg (w3.setCell ⟨d, 72, none⟩ (.int .i64 0)) d 0 64 64 m (m + c3) m 8 _ rs _ HW5.out rfl rfl hct (by omega) (Nat.min_eq_left (by omega)).symm
        have x7 := (hd7.1.cell 72).trans (Sh.cell_nx hd7.2)
        have hfz7 := hd7.1.frozen
        have HD7 := Lib.hid hd7
        have HF7 := Lib.hid hf7
        clear hd7 hf7 hct
        go_wp2
        go_ret2
        have hset := HD7.out.1.set_ 72 (.int .i64 (m : Int))
        rw [Sh.set_nx HD7.out.2] at hset
        rw [Sh.rest_small kc _ rs (by omega) (by omega)]
        have ht : rs.take m = rs := List.take_of_length_le (by omega)
        have HDD := HD7.out.2
        rw [ht] at hset HDD
        rw [hrs]
        exact ⟨rfl, ⟨hset, HDD⟩, (HF5.out.trans HF7.out).set1 72 _⟩
      · have j1 : (64 : Int) ≤ (m : Int) := by omega
        have ha := andNot63 m (by omega)
        obtain ⟨c5, hc5e⟩ : ∃ c5, m + c3 = c5 := ⟨_, rfl⟩
        have hcc5 : m ≤ c5 := by omega
        have hcap : k0 + m + c3 - k0 = c5 := by omega
        rw [hc5e] at hc5
        generalize hN : m / 64 = N at *
        go_wp2_with fail
        generalize w3.setCell ⟨d, 72, none⟩ (.int .i64 0) = W at *
        go_loopg [1, 7] (N + 1) (fun k s1 s7 wx => BigRel kc W d b o2 m c5 N S5 rs k s1 s7 wx)
        case atStart => exact ⟨0, N, S5.r, rfl, by omega, rfl, rfl, HW5.out, Fm.refl _ _, Nat.le_refl _, rfl⟩
        case round =>
          obtain ⟨j, f, r, rfl, hj, rfl, rfl, hdx, hfx, hfN, hbg⟩ := hrel
          have HDX := Lib.hid hdx
          have HFX := Lib.hid hfx
          have HBG := Lib.hid hbg
          clear hdx hfx hbg
          by_cases hbig : 1024 < N - j
          · obtain ⟨m3, hm3⟩ : ∃ m3, m - 64 * j = 65536 + m3 := ⟨m - 64 * j - 65536, by omega⟩
            obtain ⟨c3, hc3⟩ : ∃ c3, c5 - 64 * j = 65536 + c3 := ⟨c5 - 64 * j - 65536, by omega⟩
            obtain ⟨L, hL⟩ : ∃ L, 64 * (N - j) = 65536 + L := ⟨64 * (N - j) - 65536, by omega⟩
            have hbd2 : ∀ q, q < m - 64 * j → wr.cell? ⟨b, o2 + 64 * j + q, none⟩ = some (.int .u8 (rs.getD (64 * j + q) 0).toNat) := fun q hq => by
              have h := HBY2.out (64 * j + q) (by omega)
              rw [← Nat.add_assoc] at h
              have hF2 := HF5.out.trans HFX.out
              exact (World.cell?_of_block (w := w) (hF2.block b hbl hbd)).trans h
            rw [hL, hm3, hc3]
            obtain ⟨oj, hoj⟩ : ∃ oj, o2 + 64 * j = oj := ⟨_, rfl⟩
            have HB := Lib.hid (blockf_any kc wr d b oj 1024 65536 (65536 + c3) _ (fun q => ((rs.drop (64 * j)).getD q 0).toNat) (by omega) (by omega) HDX.out ((HK.out.fm HF5.out hG).fm HFX.out hG) (fun q hq => by
              rw [← hoj]
              have h := hbd2 q (by omega)
              rw [h]
              simp [List.getD_eq_getElem?_getD]) (Nat.lt_of_lt_of_le hbl (Nat.le_trans HF5.out.size HFX.out.size)) hG)
            rw [hoj]
            have i3 : (0 : Int) < (L : Int) := by omega
            have i8 : ¬ c3 = 0 := by omega
            clear hbd2
            go_wp2_with fail
            refine HB.out.mono ?_
            rintro e w3 ⟨rfl, hd3, hf3⟩
            have HD3 := Lib.hid hd3
            have HF3 := Lib.hid hf3
            clear hd3 hf3 HB
            go_wp2_with fail
            go_roundg (N - (j + 1024) + 1)
            case measure => omega
            case rel =>
              refine ⟨j + 1024, f - 1, comps kc r (rs.drop (64 * j)) 1024, by omega, by omega, ?_, ?_, HD3.out, HFX.out.trans HF3.out, by omega, ?_⟩
              · have e1 : o2 + 64 * (j + 1024) = oj + 65536 := by omega
                have e2 : m - 64 * (j + 1024) = m3 := by omega
                have e3 : c5 - 64 * (j + 1024) = c3 := sub_big c5 j c3 hc3
                rw [e1, e2, e3]
              · have e4 : 64 * (N - (j + 1024)) = L := by omega
                rw [e4]
                congr 1
                omega
              · have hb := HBG.out
                obtain ⟨f', rfl⟩ : ∃ f', f = f' + 1 := ⟨f - 1, by omega⟩
                rw [bigs_succ kc f' _ r _ hbig, List.drop_drop] at hb
                have e5 : 64 * (j + 1024) = 64 * j + 65536 := by omega
                have e6 : N - (j + 1024) = N - j - 1024 := by omega
                rw [e5, e6, Nat.add_sub_cancel]
                exact hb
          · obtain ⟨L, hL⟩ : ∃ L, 64 * (N - j) = L := ⟨_, rfl⟩
            obtain ⟨m3, hm3⟩ : ∃ m3, m - 64 * j = L + m3 := ⟨m - 64 * j - L, by omega⟩
            obtain ⟨c3, hc3⟩ : ∃ c3, c5 - 64 * j = L + c3 := ⟨c5 - 64 * j - L, by omega⟩
            have hmc3 : m3 ≤ c3 := by omega
            have hm64 : m3 < 64 := by omega
            have hbd2 : ∀ (w' : World), Fm (M1 d) W w' → ∀ q, q < m - 64 * j → w'.cell? ⟨b, o2 + 64 * j + q, none⟩ = some (.int .u8 (rs.getD (64 * j + q) 0).toNat) := fun w' hf q hq => by
              have h := HBY2.out (64 * j + q) (by omega)
              rw [← Nat.add_assoc] at h
              have hF2 := HF5.out.trans hf
              exact (World.cell?_of_block (w := w) (hF2.block b hbl hbd)).trans h
            rw [hL, hm3, hc3]
            obtain ⟨oj, hoj⟩ : ∃ oj, o2 + 64 * j = oj := ⟨_, rfl⟩
            have HB := Lib.hid (blockf_any kc wr d b oj (N - j) L (L + c3) _ (fun q => ((rs.drop (64 * j)).getD q 0).toNat) hL.symm (by omega) HDX.out ((HK.out.fm HF5.out hG).fm HFX.out hG) (fun q hq => by
              rw [← hoj]
              have h := hbd2 wr HFX.out q (by omega)
              rw [h]
              simp [List.getD_eq_getElem?_getD]) (Nat.lt_of_lt_of_le hbl (Nat.le_trans HF5.out.size HFX.out.size)) hG)
            rw [hoj]
            have i3 : ¬ (65536 : Int) < (L : Int) := by omega
            have i4 : (0 : Int) ≤ (L : Int) := by omega
            have i5 : (L : Int) ≤ (L : Int) + (c3 : Int) := by omega
            have i6 : (L : Int) ≤ (L : Int) + (m3 : Int) := by omega
            have HBD := Lib.hid hbd2
            clear hbd2
            go_wp2_with fail
            refine HB.out.mono ?_
            rintro e w3 ⟨rfl, hd3, hf3⟩
            have HD3 := Lib.hid hd3
            have HF3 := Lib.hid hf3
            clear hd3 hf3 HB
            by_cases hm0 : m3 = 0
            · subst hm0
              by_cases hc0 : c3 = 0
              · subst hc0
                go_wp2
                go_ret2
                refine ⟨rfl, ?_, (HF5.out.trans HFX.out).trans HF3.out⟩
                rw [Sh.rest_even kc _ rs N (by rw [hrs]; exact hN) (by omega) (by omega)]
                rw [← HBG.out, bigs_small kc f _ r _ hbig]
                exact HD3.out
              · skip
                go_wp2
                go_ret2
                refine ⟨rfl, ?_, (HF5.out.trans HFX.out).trans HF3.out⟩
                rw [Sh.rest_even kc _ rs N (by rw [hrs]; exact hN) (by omega) (by omega)]
                rw [← HBG.out, bigs_small kc f _ r _ hbig]
                exact HD3.out
            · skip
              have htl : (rs.drop (64 * N)).length = m3 := by rw [List.length_drop]; omega
              have hct : Cells w3 (some ⟨b, oj + L, none⟩) m3 (bv (rs.drop (64 * N))) := ⟨by rw [bv_length, htl], fun _ => ⟨b, oj + L, rfl, fun q u hq => by
                have hql : q < m3 := by
                  have := (List.getElem?_eq_some_iff.1 hq).1
                  rw [bv_length, htl] at this
                  exact this
                have h := HBD.out w3 (HFX.out.trans HF3.out) (L + q) (by omega)
                rw [hoj, ← Nat.add_assoc] at h
                rw [h, ← hq, bv_get]
                have e1 : 64 * j + (L + q) = 64 * N + q := by omega
                rw [e1, List.getElem?_drop, List.getD_eq_getElem?_getD, List.getElem?_eq_getElem (show 64 * N + q < rs.length by omega)]
                rfl⟩⟩
              obtain ⟨W2, hrun, hd4, hf4⟩ := copy_dg w3 d 0 64 64 m3 c3 m3 8 _ _ _ HD3.out rfl rfl hct (by omega) (Nat.min_eq_left (by omega)).symm
              have x4 := (hd4.1.cell 72).trans (Sh.cell_nx hd4.2)
              have hfz4 := hd4.1.frozen
              have HD4 := Lib.hid hd4
              have HF4 := Lib.hid hf4
              clear hd4 hf4 hct
              have i7 : (0 : Int) < (m3 : Int) := by omega
              have i8 : ¬ c3 = 0 := by omega
              go_wp2
              go_ret2
              refine ⟨rfl, ?_, (((HF5.out.trans HFX.out).trans HF3.out).trans HF4.out).set1 72 _⟩
              rw [Sh.rest_odd kc _ rs N (by rw [hrs]; exact hN) (by omega) (by omega)]
              rw [← HBG.out, bigs_small kc f _ r _ hbig]
              have hset := HD4.out.1.set_ 72 (.int .i64 (m3 : Int))
              rw [Sh.set_nx HD4.out.2] at hset
              have ht : (rs.drop (64 * N)).take m3 = rs.drop (64 * N) := List.take_of_length_le (by omega)
              have HDD := HD4.out.2
              rw [ht] at hset HDD
              rw [htl]
              exact ⟨hset, HDD⟩
end Go.Proofs.YtkgihpebghmnbaaGreatDoor
