/- The machine of a signed spend, and its run. What the run of the law's spend wants, apart from the walk. The machine of a spend whose output's script is given, by the rule of the shortest pushes. -/
import Derived.Test.YtkgihpebghmnbaaGreatDoorG38
import Derived.Test.YtkgihpebghmnbaaGreatDoorEngine
import Derived.Test.YtkgihpebghmnbaaGreatDoorG15
import Derived.Test.YtkgihpebghmnbaaGreatDoorG35
import Derived.Test.YtkgihpebghmnbaaGreatDoorG37
namespace Go.Proofs.YtkgihpebghmnbaaGreatDoor
open Go.RowKit Go.Proofs

set_option maxRecDepth 100000

/-- What the machine is that is built for a signed spend. -/
def EngS (kc : Nat → Int) (w : World) (ts0 ts : List Tok) (fl : Int) (st de nf : Bool) (idx : Nat) (t : TX) (e : Ending) (w' : World) : Prop :=
  ∃ g B sb pb0 po0 n0 c0 pb po n c cs, e = .returned (.tuple #[.pointer (some ⟨g, 0, none⟩), .nilIface]) ∧ Vm w' g B cs [] ∧ En cs sb 0 0 0 (.slice (some ⟨pb0, po0, none⟩) n0 c0) 0 (-1) ∧ cs[24]? = some (.bool false) ∧ cs[33]? = some .nilFunc ∧
    Rd 0 w' (.slice (some ⟨pb0, po0, none⟩) n0 c0) (code ts0) ∧ w'.cell? ⟨sb, 1, none⟩ = some (.slice (some ⟨pb, po, none⟩) n c) ∧ Rd 0 w' (.slice (some ⟨pb, po, none⟩) n c) (code ts) ∧ SpIn kc w' g B cs fl st de nf sb idx t ∧
    Below w.heap.size w w' ∧ w.heap.size ≤ g ∧ w.heap.size ≤ B.n

set_option maxHeartbeats 4000000 in
theorem engine_sig (kc : Nat → Int) (Bs : Nat) (w : World) (A Ai Ao : Option Addr) (n c ci co idx : Nat) (am fl : Int) (st de nf : Bool) (ts0 ts : List Tok) (p : PT) (q : TI) (hkt : KT kc w) (hfs : FlS fl st de nf) (hfl : Flags fl)
    (hts : ∀ t ∈ ts, TokS t) (hp0 : 0 < (code ts).length) (hrd : Rd 0 w (.slice A n c) (code ts)) (hn : n ≤ 10000) (hsrc : SrcTx Bs w Ai Ao p) (hsm : p.Small)
    (hq : p.tx.ins[idx]? = some q) (hsc : q.scr = code ts0) (hts0 : ∀ t ∈ ts0, TokS t) (hs0 : 0 < (code ts0).length) (hs1 : (code ts0).length ≤ 10000) :
    Calls Tryz.prog 22 #[.agg #[.slice A n c, .int .i64 am, .int .i32 p.ver, .slice Ai p.ins.length ci, .slice Ao p.outs.length co, .int .u32 p.lock, .int .i64 idx, .int .u32 fl]] w (EngS kc w ts0 ts fl st de nf idx p.tx) := by
  have hl1 := hrd.len.1
  subst hl1
  have hpos := Lib.hid hp0
  have HTS := Lib.hid hts
  have HTS0 := Lib.hid hts0
  have HSM := Lib.hid hsm
  have HFL := Lib.hid hfl
  have HFS := Lib.hid hfs
  have HQ := Lib.hid hq
  have HSC := Lib.hid hsc
  have HS0 := Lib.hid hs0
  have HS1 := Lib.hid hs1
  have hix : Hid (idx < p.tx.ins.length) := (List.getElem?_eq_some_iff.1 hq).1
  have hni : Hid (p.tx.ins.length ≤ 1000000) := show p.tx.ins.length ≤ 1000000 by simp [PT.tx]; exact hsm.ni
  have hno : Hid (p.tx.outs.length ≤ 1000000) := hsm.no
  have hK := World.block_lt_of_cell? w _ (hkt 0 (by omega))
  clear hp0 hts hts0 hsm hfl hfs hq hsc hs0 hs1
  generalize hli : p.ins.length = ni at *
  generalize hlo : p.outs.length = no at *
  have hb : Below w.heap.size w (w.alloc (.cells #[.slice A (code ts).length c, .int .i64 am, .int .i32 p.ver, .slice Ai ni ci, .slice Ao no co, .int .u32 p.lock, .int .i64 idx, .int .u32 fl] 48)) := (Below.refl _ _).alloc (Nat.le_refl _) _
  have H := Lib.hid (hrd.below hb)
  have HSR := Lib.hid (hsrc.below hb)
  have HKT := Lib.hid (hkt.below hb)
  have hT := Blk.new w 48 #[.slice A (code ts).length c, .int .i64 am, .int .i32 p.ver, .slice Ai ni ci, .slice Ao no co, .int .u32 p.lock, .int .i64 idx, .int .u32 fl]
  have hSp : Sp w.heap.size (.slice A (code ts).length c) (.int .i64 am) (.int .i32 p.ver) (.slice Ai ni ci) (.slice Ao no co) (.int .u32 p.lock) (.int .i64 idx) (.int .u32 fl) _ :=
    ⟨hT.cell 0, hT.cell 1, hT.cell 2, hT.cell 3, hT.cell 4, hT.cell 5, hT.cell 6, hT.cell 7⟩
  have hw : w.heap.size ≤ (w.alloc (.cells #[.slice A (code ts).length c, .int .i64 am, .int .i32 p.ver, .slice Ai ni ci, .slice Ao no co, .int .u32 p.lock, .int .i64 idx, .int .u32 fl] 48)).heap.size := by simp
  clear hT hrd hsrc hkt
  go_enter Tryz.func22, Tryz.ntmps22
  go_wp2_with fail
  generalize w.alloc (.cells #[.slice A (code ts).length c, .int .i64 am, .int .i32 p.ver, .slice Ai ni ci, .slice Ao no co, .int .u32 p.lock, .int .i64 idx, .int .u32 fl] 48) = W at *
  have hf0 : Below w.heap.size w W.drew := ⟨hb.os, hb.tape, hb.output, hb.size, hb.block⟩
  generalize hT : w.heap.size = T at *
  have hSd : Sp T (.slice A (code ts).length c) (.int .i64 am) (.int .i32 p.ver) (.slice Ai ni ci) (.slice Ao no co) (.int .u32 p.lock) (.int .i64 idx) (.int .u32 fl) W.drew := hSp
  have hN : Hid ((code ts).length ≤ 1000000000) := show (code ts).length ≤ 1000000000 by omega
  have a0 := hSp
  obtain ⟨k0, k1, k2, k3, k4, k5, k6, k7⟩ := a0
  have hSW := Lib.hid hSp
  have hSD := Lib.hid hSd
  clear hSp hSd
  go_region_held3 (fun w' => w'.cell? ⟨T, 0, none⟩ = some (.slice A (code ts).length c) ∧ w'.cell? ⟨T, 1, none⟩ = some (.int .i64 am) ∧ w'.cell? ⟨T, 2, none⟩ = some (.int .i32 p.ver) ∧ w'.cell? ⟨T, 3, none⟩ = some (.slice Ai ni ci) ∧
      w'.cell? ⟨T, 4, none⟩ = some (.slice Ao no co) ∧ w'.cell? ⟨T, 5, none⟩ = some (.int .u32 p.lock) ∧ w'.cell? ⟨T, 6, none⟩ = some (.int .i64 idx) ∧ w'.cell? ⟨T, 7, none⟩ = some (.int .u32 fl))
    ((first | exact hSD.out | exact hSW.out | exact Sp.keep (by assumption) (by assumption)))
    (first
      | (go_at_call 18
         refine (copied_any W.drew 0 (code ts).length c A (code ts) (show Rd 0 W.drew _ _ from H.out) hN.out).mono ?_
         rintro e w1 ⟨A', c', rfl, ho, hb1⟩
         have P1 := Lib.hid (Rd.of_own (B := 0) ho (by decide))
         have H1 := Lib.hid (Rd.below (w := W.drew) (show Rd 0 W.drew _ _ from H.out) hb1)
         have S1 := Lib.hid (SrcTx.below (w := W.drew) (HSR.out.below ((Below.refl W.heap.size W).drew)) hb1)
         have K1 := Lib.hid (KT.below (w := W.drew) (show KT kc W.drew from HKT.out) hb1)
         have F1 := Lib.hid (Below.trans' hf0 hw (Below.lower hb1 hw))
         have Z1 : T ≤ w1.heap.size := Nat.le_trans hw hb1.size
         clear ho)
      | (go_at_call 19
         refine (show Calls _ _ _ _ _ from hli ▸ hlo ▸ txFrom_any Bs _ Ai Ao ci co p S1.out HSM.out).mono ?_
         rintro e w2 ⟨tb, rfl, q1, q2, hb2, q3⟩
         have P2 := Lib.hid (P1.out.below hb2)
         have H2 := Lib.hid (H1.out.below hb2)
         have K2 := Lib.hid (K1.out.below hb2)
         have F2 := Lib.hid (Below.trans' F1.out Z1 (Below.lower hb2 Z1))
         have Z2 : T ≤ w2.heap.size := Nat.le_trans Z1 hb2.size
         have Q2 := Lib.hid q2
         have Q3 := Lib.hid q3
         clear q1 q2 q3)
      | (go_at_call 33
         refine (fetcher_any _ A (code ts).length c (code ts) am _ _ _ _ _ _ H2.out hN.out).mono ?_
         rintro e w3 ⟨⟨x, rfl⟩, hb3⟩
         have P3 := Lib.hid (P2.out.below hb3)
         have K3 := Lib.hid (K2.out.below hb3)
         have F3 := Lib.hid (Below.trans' F2.out Z2 (Below.lower hb3 Z2))
         have Z3 : T ≤ w3.heap.size := Nat.le_trans Z2 hb3.size
         have Y3 : w2.heap.size ≤ w3.heap.size := hb3.size
         have Q32 := Lib.hid (Q2.out.below hb3)
         have Q33 := Lib.hid (Q3.out.below hb3))
      | (go_at_call 32
         refine (newEngine_two _ tb (code ts).length c' idx fl am _ x A' ts0 ts p.tx q HFL.out P3.out HTS.out hpos.out hn w2.heap.size Y3 Q32.out Q33.out hni.out HQ.out HSC.out HTS0.out HS0.out HS1.out).mono ?_
         rintro e w4 ⟨g, sb, As, cs1, n0, Vi, Vo, rfl, hg, hsb, hgs, hblk, hrow, hb4, htr, hr0, hn0⟩
         have P4 := Lib.hid (P3.out.below hb4)
         have K4 := Lib.hid (K3.out.below hb4)
         have F4 := Lib.hid (Below.trans' F3.out Z3 (Below.lower hb4 Z3))
         have G4 := Lib.hid hg
         have GS4 := Lib.hid hgs
         have B4 := Lib.hid hblk
         have W4 := Lib.hid hrow
         have L4 := Lib.hid hb4.size
         have T4 := Lib.hid htr
         have R4 := Lib.hid hr0
         have N4 := Lib.hid hn0
         clear hg hsb hgs hblk hrow htr hr0 hn0))
  go_wp2
  go_ret2
  obtain ⟨b', o', rfl, -⟩ := P4.out.cell (j := 0) hpos.out
  have hn0 := N4.out
  have hs0 := HS0.out
  subst hn0
  obtain ⟨b0, o0, rfl, -⟩ := R4.out.cell (j := 0) hs0
  have g4 : w3.heap.size ≤ g := G4.out
  have l4 : w3.heap.size ≤ w4.heap.size := L4.out
  have gs4 := GS4.out
  have sl4 := W4.out.lt
  have gl4 := B4.out.lt
  refine ⟨g, ⟨w4.heap.size, fun _ => False⟩, sb, b0, o0, _, cs1, b', o', _, c', _, rfl, ⟨B4.out, ⟨Nat.le_refl _, fun _ h => h.elim⟩, fun _ _ _ _ h => h, none, 0, [], rfl, ⟨rfl, .inl ⟨rfl, rfl⟩⟩, RdL.nil⟩, ?_, rfl, rfl, R4.out, W4.out.cell 1, P4.out, ?_, by rw [hT]; exact F4.out, by rw [hT]; omega, by rw [hT]; (try dsimp only); omega⟩
  · exact { c6 := rfl, c7 := rfl, c11 := rfl, c12 := rfl, c13 := rfl, c14 := rfl, c15 := rfl, c16 := ⟨_, rfl⟩, c17 := rfl, c18 := rfl, c19 := ⟨_, rfl⟩, c20 := ⟨_, rfl⟩, c21 := rfl, c24 := ⟨_, rfl⟩, c25 := rfl, c27 := rfl, c28 := rfl, c30 := rfl, c32 := rfl }
  · exact { fs := HFS.out, f32 := HFL.out.f32, h0 := rfl, tx := ⟨Vi, Vo, rfl, rfl, rfl, rfl, T4.out.lift (by omega)⟩, h5 := rfl, sbB := sl4, sbg := by omega, gB := Nat.le_of_lt gl4, ix := hix.out, ni := hni.out, no := hno.out, kt := K4.out, kB := by (try dsimp only); omega, kg := by omega }

/-- What Run comes to. -/
def RunS (w : World) (ok : Bool) (e : Ending) (w' : World) : Prop :=
  ∃ (k : Int) (A : Option Addr) (n c : Nat), e = .returned (.tuple #[.int .i64 k, .slice A n c]) ∧ 0 ≤ k ∧ k ≤ 1001 ∧ (k = 0 ↔ ok = true) ∧ Below w.heap.size w w'

/-- A machine that is built, and what Execute makes of it. -/
def Built (w : World) (ok : Bool) (e : Ending) (w1 : World) : Prop :=
  ∃ g B, e = .returned (.tuple #[.pointer (some ⟨g, 0, none⟩), .nilIface]) ∧
    (Calls Tryz.prog 23 #[.pointer (some ⟨g, 0, none⟩)] w1 fun e w' => ∃ r, e = .returned r ∧ Ret r ∧ SigR g B w1 ok r w') ∧ Below w.heap.size w w1 ∧ w.heap.size ≤ g ∧ w.heap.size ≤ B.n

theorem run_of (w : World) (ok : Bool) (c0 c1 c2 c3 c4 c5 c6 c7 : Value)
    (_hone : ∀ v ∈ [c0, c1, c2, c3, c4, c5, c6, c7], v.oneCell' = true) (Q : Ending → World → Prop)
    (hE : Calls Tryz.prog 22 #[.agg #[c0, c1, c2, c3, c4, c5, c6, c7]] (w.alloc (.cells #[c0, c1, c2, c3, c4, c5, c6, c7] 48)) Q)
    (hQ : ∀ e w1, Q e w1 → Built (w.alloc (.cells #[c0, c1, c2, c3, c4, c5, c6, c7] 48)) ok e w1) :
    Calls Tryz.prog 10 #[.agg #[c0, c1, c2, c3, c4, c5, c6, c7]] w (RunS w ok) := by
  have HE := Lib.hid (hE.mono hQ)
  clear hE hQ
  go_enter Tryz.func10, Tryz.ntmps10
  go_wp2_with fail
  refine HE.out.mono ?_
  rintro e w1 ⟨g, B, rfl, hx, hbw, hg, hB⟩
  have HX := Lib.hid hx
  have hb0 : Below w.heap.size w w1 := Below.trans' ((Below.refl _ _).alloc (Nat.le_refl _) _) (by simp) (Below.lower hbw (by simp))
  have HB := Lib.hid hb0
  have hgw : w.heap.size ≤ g := Nat.le_trans (by simp) hg
  have hBw : w.heap.size ≤ B.n := Nat.le_trans (by simp) hB
  clear hx hbw hg hB hb0
  go_wp2_with fail
  refine HX.out.mono ?_
  rintro e w2 ⟨r, rfl, -, hr, hfs, cs', hv⟩
  have HB2 := Lib.hid (Below.trans' HB.out HB.out.size (hfs.toBelow HB.out.size hgw hBw))
  clear hfs
  rcases hr with ⟨rfl, hm⟩ | ⟨hf, hm⟩
  · have HM := Lib.hid hm
    have hbl := hv.blk.lt
    obtain ⟨A, cc, items, h23, -, -⟩ := hv.stk
    have c23 := (hv.blk.cell 23).trans h23
    have HG := Lib.hid (getStack_g w2 g _ hbl (fun e w' h => by obtain ⟨⟨A', c', rfl⟩, -⟩ := h; exact ⟨A', 0, c', rfl⟩) (getStack0 w2 g 23 cc A c23))
    clear hm hv h23
    go_wp2_with fail
    refine (kind_nil w2).mono ?_
    rintro e w3 ⟨rfl, rfl⟩
    go_wp2_with fail
    refine HG.out.mono ?_
    rintro e w3 ⟨⟨A', c', rfl⟩, hb3⟩
    have HB3 := Lib.hid (Below.trans' HB2.out HB2.out.size (Below.lower hb3 HB2.out.size))
    clear hb3
    go_wp2_with fail
    refine (copies_nil w3 A' c').mono ?_
    rintro e w4 ⟨rfl, rfl⟩
    go_wp2
    go_ret2
    exact ⟨0, none, 0, 0, rfl, by omega, by omega, ⟨fun _ => HM.out, fun _ => rfl⟩, HB3.out⟩
  · have HM := Lib.hid hm
    have HV := Lib.hid hv
    have HF := Lib.hid hf
    clear hm hv
    obtain ⟨cd, s, rfl, hc0, hc1⟩ := hf
    go_wp2_with fail
    refine (kind_fault w2 _ HF.out).mono ?_
    rintro e w3 ⟨⟨kk, rfl, hk1, hk2⟩, hb3⟩
    have hv3 := HV.out.below hb3
    have hbl := hv3.blk.lt
    have HB3 := Lib.hid (Below.trans' HB2.out HB2.out.size (Below.lower hb3 HB2.out.size))
    obtain ⟨A, cc, items, h23, -, -⟩ := hv3.stk
    have c23 := (hv3.blk.cell 23).trans h23
    have HG := Lib.hid (getStack_g w3 g _ hbl (fun e w' h => by obtain ⟨⟨A', c', rfl⟩, -⟩ := h; exact ⟨A', 0, c', rfl⟩) (getStack0 w3 g 23 cc A c23))
    clear hb3 hv3 h23 c23
    go_wp2_with fail
    refine HG.out.mono ?_
    rintro e w4 ⟨⟨A', c', rfl⟩, hb4⟩
    have HB4 := Lib.hid (Below.trans' HB3.out HB3.out.size (Below.lower hb4 HB3.out.size))
    clear hb4
    go_wp2_with fail
    refine (copies_nil w4 A' c').mono ?_
    rintro e w5 ⟨rfl, rfl⟩
    go_wp2
    go_ret2
    exact ⟨kk, none, 0, 0, rfl, by omega, by omega, ⟨fun h => by omega, fun h => by have := HM.out; simp [h] at this⟩, HB4.out⟩

theorem run_sig (kc : Nat → Int) (w : World) (m0 m1 m2 m3 k k0 : UInt8) (kr : List UInt8) (any : Bool) (b idx : Nat) (fl : Int) (st de nf : Bool) (t : TX) (c0 c1 c2 c3 c4 c5 c6 c7 : Value)
    (hkr : kr.length = 32) (hk0 : k0 = 2 ∨ k0 = 3) (hb : bits .and .u32 k.toNat 31 = b) (hb3 : b = 1 ∨ b = 2 ∨ b = 3) (hany : bits .and .u32 k.toNat 128 = if any then 128 else 0) (hbb : bits .and .u32 k.toNat 4294967167 = b)
    (hone : ∀ v ∈ [c0, c1, c2, c3, c4, c5, c6, c7], v.oneCell' = true)
    (hE : Calls Tryz.prog 22 #[.agg #[c0, c1, c2, c3, c4, c5, c6, c7]] (w.alloc (.cells #[c0, c1, c2, c3, c4, c5, c6, c7] 48)) (EngS kc (w.alloc (.cells #[c0, c1, c2, c3, c4, c5, c6, c7] 48)) [pushT (sigB m0 m1 m2 m3 k)] (payT (k0 :: kr)) fl st de nf idx t)) :
    Calls Tryz.prog 10 #[.agg #[c0, c1, c2, c3, c4, c5, c6, c7]] w (RunS w (sigOk kc (payT (k0 :: kr)) m0 m1 m2 m3 k b any idx t (k0 :: kr))) := by
  refine run_of w _ c0 c1 c2 c3 c4 c5 c6 c7 hone _ hE ?_
  rintro e w1 ⟨g, B, sb, pb0, po0, n0, cx, pb, po, n, c, cs, rfl, hv, he, h24, h33, hr0, hsb, hrd, hI, hbw, hg, hB⟩
  exact ⟨g, B, rfl, execute_pay kc m0 m1 m2 m3 k k0 kr any hv he h24 h33 hr0 hsb hrd hI hkr hk0 hb hb3 hany hbb, hbw, hg, hB⟩
end Go.Proofs.YtkgihpebghmnbaaGreatDoor

namespace Go.Proofs.YtkgihpebghmnbaaGreatDoor
open Go.RowKit Go.Proofs

theorem list4 {L : List UInt8} (h : L.length = 4) : ∃ a b c d, L = [a, b, c, d] := by
  match L, h with
  | [a, b, c, d], _ => exact ⟨a, b, c, d, rfl⟩
theorem flags2048 : Flags 2048 := ⟨by decide, by decide, by decide, by decide, by decide⟩
theorem fls2048 : FlS 2048 true false false := ⟨by unfold Flag; decide, by unfold Flag; decide, by unfold Flag; decide, by unfold Flag; decide, by unfold Flag; decide, by unfold Flag; decide⟩
theorem PT.in1_small {p : PT} (h : p.Small) (k : Nat) (q : PI) (s : List UInt8) (hs : s.length ≤ 1000000) : (p.in1 k q s).Small :=
  ⟨by simpa [PT.in1] using h.ni, h.no, fun x hx => by
    rcases List.mem_or_eq_of_mem_set hx with hx | rfl
    · exact h.ins x hx
    · exact ⟨hs, Nat.zero_le _, fun xs hx => by cases hx⟩, h.outs⟩
theorem PT.in1_get {p : PT} (k : Nat) (q : PI) (s : List UInt8) (h : k < p.ins.length) : (p.in1 k q s).tx.ins[k]? = some (q.scr1 s).ti := by
  show ((p.ins.set k (q.scr1 s)).map PI.ti)[k]? = _
  rw [List.getElem?_map, List.getElem?_set, if_pos rfl, if_pos h]
  rfl

theorem run_signed (kc : Nat → Int) (Bs : Nat) (W : World) (As A1 A2 : Option Addr) (cs c1 c2 idx b : Nat) (px : PT) (qx : TI) (m0 m1 m2 m3 k8 : UInt8) (sh : List UInt8) (hsh : sh.length = 32) (hk : KT kc W) (hscr : Rd 0 W (.slice As 35 cs) (code (payT (2 :: sh)))) (hs : SrcTx Bs W A1 A2 px) (hsm : px.Small)
    (hq : px.tx.ins[idx]? = some qx) (hsc : qx.scr = (pushT (sigB m0 m1 m2 m3 k8)).enc) (hk8 : (k8.toNat : Int) = (b : Int)) (hb : b = 1 ∨ b = 2 ∨ b = 3) :
    Calls Tryz.prog 10 #[.agg #[.slice As 35 cs, .int .i64 0, .int .i32 px.ver, .slice A1 px.ins.length c1, .slice A2 px.outs.length c2, .int .u32 px.lock, .int .i64 idx, .int .u32 2048]] W (RunS W (sigOk kc (payT (2 :: sh)) m0 m1 m2 m3 k8 b false idx px.tx (2 :: sh))) := by
  have hkl : (2 :: sh).length = 33 := by simp [hsh]
  have hal : Below W.heap.size W (W.alloc (.cells #[.slice As 35 cs, .int .i64 0, .int .i32 px.ver, .slice A1 px.ins.length c1, .slice A2 px.outs.length c2, .int .u32 px.lock, .int .i64 idx, .int .u32 2048] 48)) := (Below.refl _ _).alloc (Nat.le_refl _) _
  have hc1 : code [pushT (sigB m0 m1 m2 m3 k8)] = (pushT (sigB m0 m1 m2 m3 k8)).enc := by simp [code]
  have hl : (pushT (sigB m0 m1 m2 m3 k8)).enc.length = 14 := rfl
  have hE := engine_sig kc Bs _ As A1 A2 35 cs c1 c2 idx 0 2048 true false false [pushT (sigB m0 m1 m2 m3 k8)] (payT (2 :: sh)) px qx (hk.below hal) fls2048 flags2048 (payT_tok hkl) (by rw [payT_length hkl]; omega) (hscr.below hal) (by omega) (hs.below hal) hsm hq (by rw [hc1]; exact hsc)
    (by intro t ht; rw [List.mem_singleton] at ht; subst ht; exact tokS_pushT _ (show 13 ≤ 65535 by omega)) (by rw [hc1, hl]; omega) (by rw [hc1, hl]; omega)
  refine run_sig kc W m0 m1 m2 m3 k8 2 sh false b idx 2048 true false false px.tx _ _ _ _ _ _ _ _ hsh (.inl rfl) ?_ hb ?_ ?_ (by intro v hv; simp at hv; rcases hv with rfl | rfl | rfl | rfl | rfl | rfl | rfl | rfl <;> rfl) hE
  all_goals (rw [hk8]; rcases hb with rfl | rfl | rfl <;> decide)
end Go.Proofs.YtkgihpebghmnbaaGreatDoor

namespace Go.Proofs.YtkgihpebghmnbaaGreatDoor
open Go.RowKit Go.Proofs

set_option maxRecDepth 100000

/-- What the machine is that is built for a script's spend. -/
def EngP (w : World) (bs : List UInt8) (mn : Bool) (fl : Int) (e : Ending) (w' : World) : Prop :=
  ∃ g B sb pb po n c cs, e = .returned (.tuple #[.pointer (some ⟨g, 0, none⟩), .nilIface]) ∧ Vm w' g B cs [] ∧ En cs sb 1 0 0 (.slice (some ⟨pb, po, none⟩) n c) 0 (-1) ∧ n ≤ 10000 ∧
    Rd 0 w' (.slice (some ⟨pb, po, none⟩) n c) bs ∧ cs[0]? = some (.int .u32 fl) ∧ cs[24]? = some (.bool mn) ∧ cs[25]? = some (.slice none 0 0) ∧ cs[33]? = some .nilFunc ∧ Below w.heap.size w w' ∧ w.heap.size ≤ g ∧ w.heap.size ≤ B.n ∧ cs[23]? = some (.slice none 0 0)

set_option maxHeartbeats 2000000 in
theorem engine_push (inC : Array Value) (hTx : TxSaid inC) (w : World) (A : Option Addr) (n c ri ro c1 c2 l : Nat) (ts : List Tok) (hts : ∀ t ∈ ts, TokS t) (hp0 : 0 < (code ts).length) (hrd : Rd 0 w (.slice A n c) (code ts)) (hn : n ≤ 10000)
    (hri : Blk w ri 43 inC) (hro : Blk w ro 34 #[.int .i64 1, .slice none 0 0]) :
    Calls Tryz.prog 22 #[.agg #[.slice A n c, .int .i64 0, .int .i32 2, .slice (some ⟨ri, 0, none⟩) 1 c1, .slice (some ⟨ro, 0, none⟩) 1 c2, .int .u32 l, .int .i64 0, .int .u32 256]] w (EngP w (code ts) true 256) := by
  have hl1 := hrd.len.1
  subst hl1
  have hpos := Lib.hid hp0
  have HTS := Lib.hid hts
  clear hp0 hts
  have hb : Below w.heap.size w (w.alloc (.cells #[.slice A (code ts).length c, .int .i64 0, .int .i32 2, .slice (some ⟨ri, 0, none⟩) 1 c1, .slice (some ⟨ro, 0, none⟩) 1 c2, .int .u32 l, .int .i64 0, .int .u32 256] 48)) := (Below.refl _ _).alloc (Nat.le_refl _) _
  have H := Lib.hid (hrd.below hb)
  have HRI := Lib.hid (hri.below hb hri.lt)
  have HRO := Lib.hid (hro.below hb hro.lt)
  have hT := Blk.new w 48 #[.slice A (code ts).length c, .int .i64 0, .int .i32 2, .slice (some ⟨ri, 0, none⟩) 1 c1, .slice (some ⟨ro, 0, none⟩) 1 c2, .int .u32 l, .int .i64 0, .int .u32 256]
  have hSp : Sp w.heap.size (.slice A (code ts).length c) (.int .i64 0) (.int .i32 2) (.slice (some ⟨ri, 0, none⟩) 1 c1) (.slice (some ⟨ro, 0, none⟩) 1 c2) (.int .u32 l) (.int .i64 0) (.int .u32 256) _ :=
    ⟨hT.cell 0, hT.cell 1, hT.cell 2, hT.cell 3, hT.cell 4, hT.cell 5, hT.cell 6, hT.cell 7⟩
  have hw : w.heap.size ≤ (w.alloc (.cells #[.slice A (code ts).length c, .int .i64 0, .int .i32 2, .slice (some ⟨ri, 0, none⟩) 1 c1, .slice (some ⟨ro, 0, none⟩) 1 c2, .int .u32 l, .int .i64 0, .int .u32 256] 48)).heap.size := by simp
  clear hT hrd hri hro
  go_enter Tryz.func22, Tryz.ntmps22
  go_wp2_with fail
  generalize w.alloc (.cells #[.slice A (code ts).length c, .int .i64 0, .int .i32 2, .slice (some ⟨ri, 0, none⟩) 1 c1, .slice (some ⟨ro, 0, none⟩) 1 c2, .int .u32 l, .int .i64 0, .int .u32 256] 48) = W at *
  have hf0 : Below w.heap.size w W.drew := ⟨hb.os, hb.tape, hb.output, hb.size, hb.block⟩
  generalize hT : w.heap.size = T at *
  have hSd : Sp T (.slice A (code ts).length c) (.int .i64 0) (.int .i32 2) (.slice (some ⟨ri, 0, none⟩) 1 c1) (.slice (some ⟨ro, 0, none⟩) 1 c2) (.int .u32 l) (.int .i64 0) (.int .u32 256) W.drew := hSp
  have hN : Hid ((code ts).length ≤ 1000000000) := show (code ts).length ≤ 1000000000 by omega
  have HTX := Lib.hid hTx
  have a0 := hSp
  obtain ⟨k0, k1, k2, k3, k4, k5, k6, k7⟩ := a0
  have hSW := Lib.hid hSp
  have hSD := Lib.hid hSd
  clear hSp hSd hTx
  go_region_held3 (fun w' => w'.cell? ⟨T, 0, none⟩ = some (.slice A (code ts).length c) ∧ w'.cell? ⟨T, 1, none⟩ = some (.int .i64 0) ∧ w'.cell? ⟨T, 2, none⟩ = some (.int .i32 2) ∧ w'.cell? ⟨T, 3, none⟩ = some (.slice (some ⟨ri, 0, none⟩) 1 c1) ∧
      w'.cell? ⟨T, 4, none⟩ = some (.slice (some ⟨ro, 0, none⟩) 1 c2) ∧ w'.cell? ⟨T, 5, none⟩ = some (.int .u32 l) ∧ w'.cell? ⟨T, 6, none⟩ = some (.int .i64 0) ∧ w'.cell? ⟨T, 7, none⟩ = some (.int .u32 256))
    ((first | exact hSD.out | exact hSW.out | exact Sp.keep (by assumption) (by assumption)))
    (first
      | (go_at_call 18
         refine (copied_any W.drew 0 (code ts).length c A (code ts) (show Rd 0 W.drew _ _ from H.out) hN.out).mono ?_
         rintro e w1 ⟨A', c', rfl, ho, hb1⟩
         have P1 := Lib.hid (Rd.of_own (B := 0) ho (by decide))
         have H1 := Lib.hid (Rd.below (w := W.drew) (show Rd 0 W.drew _ _ from H.out) hb1)
         have R1 := Lib.hid (Blk.step (w := W.drew) (show Blk W.drew _ _ _ from HRI.out) hb1)
         have O1 := Lib.hid (Blk.step (w := W.drew) (show Blk W.drew _ _ _ from HRO.out) hb1)
         have F1 := Lib.hid (Below.trans' hf0 hw (Below.lower hb1 hw))
         have Z1 : T ≤ w1.heap.size := Nat.le_trans hw hb1.size
         clear ho)
      | (go_at_call 19
         refine (HTX.out _ ri ro c1 c2 2 l R1.out O1.out).mono ?_
         rintro e w2 ⟨tb, ib, rn, rc, As, cs1, txo, rfl, q1, q2, q3, q4, q5, hb2⟩
         have P2 := Lib.hid (P1.out.below hb2)
         have H2 := Lib.hid (H1.out.below hb2)
         have F2 := Lib.hid (Below.trans' F1.out Z1 (Below.lower hb2 Z1))
         have Z2 : T ≤ w2.heap.size := Nat.le_trans Z1 hb2.size
         have Q1 := Lib.hid q1
         have Q2 := Lib.hid q2
         have Q3 := Lib.hid q3
         have Q4 := Lib.hid q4
         have Q5 := Lib.hid q5
         clear q1 q2 q3 q4 q5)
      | (go_at_call 33
         refine (fetcher_any _ A (code ts).length c (code ts) 0 _ _ _ _ _ _ H2.out hN.out).mono ?_
         rintro e w3 ⟨⟨x, rfl⟩, hb3⟩
         have P3 := Lib.hid (P2.out.below hb3)
         have F3 := Lib.hid (Below.trans' F2.out Z2 (Below.lower hb3 Z2))
         have Z3 : T ≤ w3.heap.size := Nat.le_trans Z2 hb3.size
         have Q31 := Lib.hid (Blk.step Q1.out hb3)
         have Q33 := Lib.hid (cell_below hb3 Q3.out)
         have Q34 := Lib.hid (cell_below hb3 Q4.out)
         have Q35 := Lib.hid (cell_below hb3 Q5.out))
      | (go_at_call 32
         refine (newEngine_min _ tb ib 0 (code ts).length c' cs1 rn rc 256 0 _ x A' As ts 2 0 l txo #[] flags256 P3.out HTS.out hpos.out hn Q31.out Q2.out Q33.out Q34.out).mono ?_
         rintro e w4 ⟨g, sb, rfl, hg, hsb, hgs, hblk, hrow, hb4⟩
         have P4 := Lib.hid (P3.out.below hb4)
         have F4 := Lib.hid (Below.trans' F3.out Z3 (Below.lower hb4 Z3))
         have G4 := Lib.hid hg
         have B4 := Lib.hid hblk
         have L4 := Lib.hid hb4.size
         have Q43 := Lib.hid (cell_below hb4 Q33.out)
         have Q45 := Lib.hid (cell_below hb4 Q35.out)
         have N3 := Lib.hid (World.block_lt_of_cell? _ _ Q33.out)
         have N5 := Lib.hid (World.block_lt_of_cell? _ _ Q35.out)
         clear hg hsb hgs hblk hrow))
  go_wp2
  go_ret2
  obtain ⟨b', o', rfl, -⟩ := P4.out.cell (j := 0) hpos.out
  have g4 : w3.heap.size ≤ g := G4.out
  have l4 : w3.heap.size ≤ w4.heap.size := L4.out
  refine ⟨g, ⟨w4.heap.size, fun _ => False⟩, sb, b', o', _, c', _, rfl, ⟨B4.out, ⟨Nat.le_refl _, fun _ h => h.elim⟩, fun _ _ _ _ h => h, none, 0, [], rfl, ⟨rfl, .inl ⟨rfl, rfl⟩⟩, RdL.nil⟩, ?_, hn, P4.out, rfl, rfl, rfl, rfl, by rw [hT]; exact F4.out, by rw [hT]; omega, by rw [hT]; (try dsimp only); omega, rfl⟩
  exact { c6 := rfl, c7 := rfl, c11 := rfl, c12 := rfl, c13 := rfl, c14 := rfl, c15 := rfl, c16 := ⟨_, rfl⟩, c17 := rfl, c18 := rfl, c19 := ⟨_, rfl⟩, c20 := ⟨_, rfl⟩, c21 := rfl, c24 := ⟨_, rfl⟩, c25 := rfl, c27 := rfl, c28 := rfl, c30 := rfl, c32 := rfl }
end Go.Proofs.YtkgihpebghmnbaaGreatDoor
