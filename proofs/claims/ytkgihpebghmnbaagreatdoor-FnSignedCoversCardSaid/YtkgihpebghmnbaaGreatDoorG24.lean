/- A transaction written onto a hash, without its witnesses. A transaction written onto a hash: the buffer is made, and given back. A region that draws its order: what may be taken first under a condition that need not hold behind the last operations, those that wait for it. -/
import Derived.Test.YtkgihpebghmnbaaGreatDoorG23
import Derived.Deep.LoopGhost
import Derived.LoopTactic
import Derived.Defers
import Derived.Test.YtkgihpebghmnbaaGreatDoorG07
namespace Go.Proofs.YtkgihpebghmnbaaGreatDoor
open Go.RowKit Go.Proofs

set_option maxRecDepth 100000

/-- An input and an output, as plain data; a transaction, without witnesses. -/
structure TI where
  h : List UInt8
  idx : Int
  scr : List UInt8
  seq : Int
structure TO where
  val : Int
  scr : List UInt8
structure TX where
  ver : Int
  ins : List TI
  outs : List TO
  lock : Int

/-- The value points to such an input, in blocks below B. -/
def InAt (B : Nat) (w : World) (v : Value) (t : TI) : Prop := ∃ p o ci A c, v = .pointer (some ⟨p, o, none⟩) ∧ p < B ∧ w.rangeAt p o (Ci.cells ci) ∧ ci.h = t.h ∧ ci.idx = t.idx ∧ ci.seq = t.seq ∧ ci.sv = .slice A t.scr.length c ∧ t.scr.length ≤ c ∧ t.scr.length ≤ 1000000 ∧
  Cells w A t.scr.length (bv t.scr) ∧ ∀ x y, A = some ⟨x, y, none⟩ → x < B
def OutAt (B : Nat) (w : World) (v : Value) (t : TO) : Prop := ∃ p o A c, v = .pointer (some ⟨p, o, none⟩) ∧ p < B ∧ w.cell? ⟨p, o, none⟩ = some (.int .i64 t.val) ∧ w.cell? ⟨p, o + 1, none⟩ = some (.slice A t.scr.length c) ∧ t.scr.length ≤ c ∧ t.scr.length ≤ 1000000 ∧
  Cells w A t.scr.length (bv t.scr) ∧ ∀ x y, A = some ⟨x, y, none⟩ → x < B

section
variable {B : Nat} {w w' : World} {v : Value}
theorem at_below {a : Addr} {u : Value} (hb : Below B w w') (hc : w.cell? a = some u) (ha : a.block < B) : w'.cell? a = some u := (World.cell?_of_block (w := w) (hb.block a.block ha)).trans hc
theorem range_below {p o : Nat} {cs : List Value} (hb : Below B w w') (hc : w.rangeAt p o cs) (ha : p < B) : w'.rangeAt p o cs := fun j u hu => at_below hb (hc j u hu) ha
theorem cells_below {A : Option Addr} {n : Nat} {vs : List Value} (hb : Below B w w') (hc : Cells w A n vs) (ha : ∀ x y, A = some ⟨x, y, none⟩ → x < B) : Cells w' A n vs := by
  refine ⟨hc.1, fun hp => ?_⟩
  obtain ⟨x, y, rfl, hj⟩ := hc.2 hp
  exact ⟨x, y, rfl, fun j u hu => at_below hb (hj j u hu) (ha x y rfl)⟩
theorem InAt.below {t : TI} (h : InAt B w v t) (hb : Below B w w') : InAt B w' v t := by
  obtain ⟨p, o, ci, A, c, h1, h2, h3, h4, h5, h6, h7, h8, h9, h10, h11⟩ := h
  exact ⟨p, o, ci, A, c, h1, h2, range_below hb h3 h2, h4, h5, h6, h7, h8, h9, cells_below hb h10 h11, h11⟩
theorem OutAt.below {t : TO} (h : OutAt B w v t) (hb : Below B w w') : OutAt B w' v t := by
  obtain ⟨p, o, A, c, h1, h2, h3, h4, h5, h6, h7, h8⟩ := h
  exact ⟨p, o, A, c, h1, h2, at_below hb h3 h2, at_below hb h4 h2, h5, h6, cells_below hb h7 h8, h8⟩
end

/-- The inputs of a list of pointers. -/
def InsAt (B : Nat) (w : World) (vs : List Value) (ts : List TI) : Prop := vs.length = ts.length ∧ ∀ (i : Nat) (v : Value) (t : TI), vs[i]? = some v → ts[i]? = some t → InAt B w v t
def OutsAt (B : Nat) (w : World) (vs : List Value) (ts : List TO) : Prop := vs.length = ts.length ∧ ∀ (i : Nat) (v : Value) (t : TO), vs[i]? = some v → ts[i]? = some t → OutAt B w v t
theorem InsAt.below {B : Nat} {w w' : World} {vs : List Value} {ts : List TI} (h : InsAt B w vs ts) (hb : Below B w w') : InsAt B w' vs ts := ⟨h.1, fun i v t h1 h2 => (h.2 i v t h1 h2).below hb⟩
theorem OutsAt.below {B : Nat} {w w' : World} {vs : List Value} {ts : List TO} (h : OutsAt B w vs ts) (hb : Below B w w') : OutsAt B w' vs ts := ⟨h.1, fun i v t h1 h2 => (h.2 i v t h1 h2).below hb⟩

/-- Four cells. -/
structure Tx4 (w : World) (m o : Nat) (a b c d : Value) : Prop where
  c0 : w.cell? ⟨m, o, none⟩ = some a
  c1 : w.cell? ⟨m, o + 1, none⟩ = some b
  c2 : w.cell? ⟨m, o + 2, none⟩ = some c
  c3 : w.cell? ⟨m, o + 3, none⟩ = some d
theorem Tx4.below {B : Nat} {w w' : World} {m o : Nat} {a b c d : Value} (h : Tx4 w m o a b c d) (hb : Below B w w') (hm : m < B) : Tx4 w' m o a b c d := ⟨at_below hb h.c0 hm, at_below hb h.c1 hm, at_below hb h.c2 hm, at_below hb h.c3 hm⟩
theorem Tx4.lt {w : World} {m o : Nat} {a b c d : Value} (h : Tx4 w m o a b c d) : m < w.heap.size := World.block_lt_of_cell? w _ h.c0
theorem Tx4.of {w : World} {m : Nat} {a b c d : Value} {t : TypeId} (h : Blk w m t #[a, b, c, d]) : Tx4 w m 0 a b c d := ⟨h.cell 0, h.cell 1, h.cell 2, h.cell 3⟩

theorem Tx4.far {w w' : World} {m o : Nat} {a b c d : Value} {M : Nat → Prop} (h : Tx4 w m o a b c d) (hf : Fm M w w') (hm : ¬ M m) : Tx4 w' m o a b c d := by
  have k : ∀ i u, w.cell? ⟨m, i, none⟩ = some u → w'.cell? ⟨m, i, none⟩ = some u := fun i u hc => (World.cell?_of_block (w := w) (a := ⟨m, i, none⟩) (hf.block m (World.block_lt_of_cell? w _ hc) hm)).trans hc
  exact ⟨k _ _ h.c0, k _ _ h.c1, k _ _ h.c2, k _ _ h.c3⟩
theorem Tx4.alloc {w : World} {m o : Nat} {a b c d : Value} (h : Tx4 w m o a b c d) (ob : Obj) : Tx4 (w.alloc ob) m o a b c d := h.below ((Below.refl w.heap.size w).alloc (Nat.le_refl _) ob) h.lt
/-- Such a transaction lies at place o of block m, in blocks below B. -/
structure TxAt (B : Nat) (w : World) (m o : Nat) (t : TX) : Prop where
  lt : m < B
  ex : ∃ Ai ci Ao co vi vo, Tx4 w m o (.int .i32 t.ver) (.slice Ai t.ins.length ci) (.slice Ao t.outs.length co) (.int .u32 t.lock) ∧
    Cells w Ai t.ins.length vi ∧ (∀ x y, Ai = some ⟨x, y, none⟩ → x < B) ∧ InsAt B w vi t.ins ∧
    Cells w Ao t.outs.length vo ∧ (∀ x y, Ao = some ⟨x, y, none⟩ → x < B) ∧ OutsAt B w vo t.outs
theorem TxAt.below {B : Nat} {w w' : World} {m o : Nat} {t : TX} (h : TxAt B w m o t) (hb : Below B w w') : TxAt B w' m o t := by
  obtain ⟨Ai, ci, Ao, co, vi, vo, h1, h2, h3, h4, h5, h6, h7⟩ := h.ex
  exact ⟨h.lt, Ai, ci, Ao, co, vi, vo, h1.below hb h.lt, cells_below hb h2 h3, h3, h4.below hb, cells_below hb h5 h6, h6, h7.below hb⟩

def feedIns (kc : Nat → Int) (s : Sh) (ts : List TI) : Sh := ts.foldl (fun s t => feedIn kc s t.h t.idx t.scr t.seq) s
def feedOuts (kc : Nat → Int) (s : Sh) (ts : List TO) : Sh := ts.foldl (fun s t => feedOut kc s t.val t.scr) s
/-- What a transaction feeds. -/
def feedTx (kc : Nat → Int) (s : Sh) (t : TX) : Sh :=
  (feedOuts kc ((feedIns kc ((s.feed kc (le32b (t.ver % 4294967296))).feed kc (varb t.ins.length)) t.ins).feed kc (varb t.outs.length)) t.outs).feed kc (le32b t.lock)

theorem feedIns_succ (kc : Nat → Int) (s : Sh) (ts : List TI) (i : Nat) (t : TI) (h : ts[i]? = some t) : feedIns kc s (ts.take (i + 1)) = feedIn kc (feedIns kc s (ts.take i)) t.h t.idx t.scr t.seq := by
  rw [List.take_add_one, h]; simp [feedIns, List.foldl_append]
theorem feedOuts_succ (kc : Nat → Int) (s : Sh) (ts : List TO) (i : Nat) (t : TO) (h : ts[i]? = some t) : feedOuts kc s (ts.take (i + 1)) = feedOut kc (feedOuts kc s (ts.take i)) t.val t.scr := by
  rw [List.take_add_one, h]; simp [feedOuts, List.foldl_append]

/-- The loops' relations. -/
def EiRel (kc : Nat → Int) (w : World) (d b : Nat) (s : Sh) (ts : List TI) (k : Nat) (s17 _s19 s81 : Value) (wx : World) : Prop :=
  ∃ i, k = ts.length - i + 1 ∧ i ≤ ts.length ∧ s17 = .nilIface ∧ s81 = .int .i64 i ∧ Wr kc wx d b (feedIns kc s (ts.take i)) ∧ Fm (Mb d b) w wx
def EoRel (kc : Nat → Int) (w : World) (d b : Nat) (s : Sh) (ts : List TO) (k : Nat) (s17 _s21 s117 : Value) (wx : World) : Prop :=
  ∃ i, k = ts.length - i + 1 ∧ i ≤ ts.length ∧ s17 = .nilIface ∧ s117 = .int .i64 i ∧ Wr kc wx d b (feedOuts kc s (ts.take i)) ∧ Fm (Mb d b) w wx

theorem Fm.mb_below {B : Nat} {w w' : World} {d b : Nat} (h : Fm (Mb d b) w w') (hd : B ≤ d) (hb : B ≤ b) (hB : B ≤ w.heap.size) : Below B w w' := h.toBelow hB fun k hk hm => by
  rcases hm with hm | hm <;> omega

set_option maxHeartbeats 4000000 in
theorem btcEncode_wr (kc : Nat → Int) (B : Nat) (w : World) (d b m o : Nat) (t : TX) (s : Sh) (pv : Value) (h : Wr kc w d b s) (ht : TxAt B w m o t) (hBd : B ≤ d) (hBb : B ≤ b) (hi : t.ins.length ≤ 1000000) (hoo : t.outs.length ≤ 1000000) :
    Calls Tryz.prog 99 #[.pointer (some ⟨m, o, none⟩), .iface 181 (.pointer (some ⟨d, 0, none⟩)), pv, .int .u32 1, .slice (some ⟨b, 0, none⟩) 8 8] w fun e w' =>
      e = .returned .nilIface ∧ Wr kc w' d b (feedTx kc s t) ∧ Fm (Mb d b) w w' := by
  have hna := nilAhead_write
  have hBw : B ≤ w.heap.size := Nat.le_of_lt (Nat.lt_of_le_of_lt hBd h.dg.1.lt)
  have hm := ht.lt
  obtain ⟨Ai, ci, Ao, co, vi, vo, h1, h2, h3, h4, h5, h6, h7⟩ := ht.ex
  have hni : (t.ins.length : Int) % 18446744073709551616 = t.ins.length := by omega
  have hno : (t.outs.length : Int) % 18446744073709551616 = t.outs.length := by omega
  have y0 := h1.c0
  have HP := Lib.hid (put32_wr kc w.drew d b 8 _ (t.ver % 4294967296) h.drew)
  have H1 := Lib.hid h1
  have H2 := Lib.hid h2
  have H3 := Lib.hid h3
  have H4 := Lib.hid h4
  have H5 := Lib.hid h5
  have H6 := Lib.hid h6
  have H7 := Lib.hid h7
  clear h ht h1 h2 h3 h4 h5 h6 h7
  generalize hNI : t.ins.length = ni at *
  generalize hNO : t.outs.length = no at *
  go_enter Tryz.func99, Tryz.ntmps99
  go_upto_region 1 with fail
  go_still_tail 8, (by kernel_rfl)
  change wpList _ _ _ _ _ w.drew
  go_wp2_with fail
  refine HP.out.mono ?_
  rintro e w1 ⟨rfl, k1, hc1, f1⟩
  have HW := Lib.hid (write_wr kc w1.drew d b 4 8 (some ⟨b, 0, none⟩) _ _ k1.drew hc1 (fun x o e => by injection e with e; injection e with e1 e2; have := k1.db; omega) (by omega) (by omega))
  have F1 := Lib.hid (show Fm (Mb d b) w w1 from (Fm.refl _ _).drew.trans f1)
  clear k1 hc1 f1 HP y0
  go_upto_region 2 with fail
  go_region_held3 (fun _ => True) ((trivial)) ((refine HW.out.mono ?_; rintro e w2 ⟨rfl, k2, f2⟩))
  have f2' : Fm (Mb d b) w w2 := F1.out.trans ((Fm.refl _ _).drew.trans f2)
  have b2 := f2'.mb_below hBd hBb hBw
  have y1 := (H1.out.below b2 hm).c1
  have HV := Lib.hid (var_wr kc w2 d b _ ni pv (by omega) k2)
  have F2 := Lib.hid f2'
  clear k2 f2 f2' b2 HW F1
  go_wp2_with fail
  refine HV.out.mono ?_
  rintro e w3 ⟨rfl, k3, f3⟩
  have f3' := F2.out.trans f3
  have b3 := f3'.mb_below hBd hBb hBw
  have y1 := (H1.out.below b3 hm).c1
  have K3 := Lib.hid k3
  have F3 := Lib.hid f3'
  clear k3 f3 f3' b3 HV F2
  go_wp2_with fail
  go_loopg [17, 19, 81] (ni + 1) (fun k s17 s19 s81 wx => EiRel kc w d b _ t.ins k s17 s19 s81 wx)
  case atStart => exact ⟨0, by rw [hNI]; rfl, Nat.zero_le _, rfl, rfl, K3.out, F3.out⟩
  case round =>
    obtain ⟨i, hk, hin, rfl, rfl, hw, hf⟩ := hrel
    rw [hNI] at hk hin
    have bx := hf.mb_below hBd hBb hBw
    by_cases h0 : i = ni
    · subst h0
      have hd : decide ((i : Int) < i) = false := by simp
      have ht : t.ins.take i = t.ins := List.take_of_length_le (by omega)
      rw [ht] at hw
      have y1 := (H1.out.below bx hm).c2
      have HV := Lib.hid (var_wr kc wr d b _ no pv (by omega) hw)
      have F4 := Lib.hid hf
      have HK := Lib.hid hk
      clear hw hf bx K3 F3 hk
      go_wp2_with fail
      refine HV.out.mono ?_
      rintro e w4 ⟨rfl, k4, f4⟩
      have f4' := F4.out.trans f4
      have b4 := f4'.mb_below hBd hBb hBw
      have y1 := (H1.out.below b4 hm).c2
      have K4 := Lib.hid k4
      have F5 := Lib.hid f4'
      clear k4 f4 f4' b4 HV F4
      go_wp2_with fail
      go_loopg [17, 21, 117] (no + 1) (fun k s17 s21 s117 wx => EoRel kc w d b _ t.outs k s17 s21 s117 wx)
      case atStart => exact ⟨0, by rw [hNO]; rfl, Nat.zero_le _, rfl, rfl, K4.out, F5.out⟩
      case round =>
        obtain ⟨j, hk, hjn, rfl, rfl, hw, hf⟩ := hrel
        rw [hNO] at hk hjn
        have bx := hf.mb_below hBd hBb hBw
        by_cases h0 : j = no
        · subst h0
          have hd : decide ((j : Int) < j) = false := by simp
          have ht : t.outs.take j = t.outs := List.take_of_length_le (by omega)
          rw [ht] at hw
          have y3 := (H1.out.below bx hm).c3
          have HP := Lib.hid (put32_wr kc wr.drew d b 8 _ t.lock hw.drew)
          have F6 := Lib.hid hf
          have HK := Lib.hid hk
          clear hw hf bx K4 F5 hk
          go_upto_region 40 with fail
          go_still_tail 7, (by kernel_rfl)
          change wpList _ _ _ _ _ wr.drew
          go_wp2_with fail
          refine HP.out.mono ?_
          rintro e w5 ⟨rfl, k5, hc5, f5⟩
          have HW := Lib.hid (write_wr kc w5.drew d b 4 8 (some ⟨b, 0, none⟩) _ _ k5.drew hc5 (fun x o e => by injection e with e; injection e with e1 e2; have := k5.db; omega) (by omega) (by omega))
          have F7 := Lib.hid (F6.out.trans ((Fm.refl _ _).drew.trans f5))
          clear k5 hc5 f5 HP F6 y3
          go_upto_region 41 with fail
          go_region_held3 (fun _ => True) ((trivial)) ((refine HW.out.mono ?_; rintro e w6 ⟨rfl, k6, f6⟩))
          have K6 := Lib.hid k6
          have F8 := Lib.hid (F7.out.trans ((Fm.refl _ _).drew.trans f6))
          clear k6 f6
          go_wp2
          go_ret
          refine ⟨rfl, ?_, F8.out⟩
          unfold feedTx
          rw [hNI, hNO]
          exact K6.out
        · have h1 : (j : Int) < (no : Int) := by omega
          have h2 : (0 : Int) ≤ (j : Int) := by omega
          obtain ⟨x, q, rfl, hcells⟩ := H5.out.2 (by omega)
          obtain ⟨v, hv⟩ : ∃ v, vo[j]? = some v := ⟨vo[j]'(by rw [H5.out.1]; omega), List.getElem?_eq_getElem _⟩
          obtain ⟨tj, htj⟩ : ∃ v, t.outs[j]? = some v := ⟨t.outs[j]'(by omega), List.getElem?_eq_getElem _⟩
          obtain ⟨p, po, A, c, rfl, hp, e1, e2, hcc, hn, hC, hA⟩ := (H7.out.2 j v tj hv htj).below bx
          have hcl := at_below bx (hcells j _ hv) (H6.out x q rfl)
          have yv := (H1.out.below bx hm).c0
          have HT := Lib.hid (txOut_wr kc wr d b p po tj.scr.length c A tj.scr _ tj.val pv (.int .i32 t.ver) hw e1 e2 hC (fun x y e => by have := hA x y e; omega) hcc hn (by omega) (by omega))
          have F6 := Lib.hid hf
          have HK := Lib.hid hk
          have HTJ := Lib.hid htj
          clear hw hf bx K4 F5 hk e1 e2 hcells hv hC hA htj hcc hn
          go_wp2_with fail
          refine HT.out.mono ?_
          rintro e w5 ⟨rfl, k5, f5⟩
          have K5 := Lib.hid k5
          have F7 := Lib.hid (F6.out.trans f5)
          clear k5 f5 HT F6 hcl yv
          go_wp2_with fail
          have hw1 : (j : Int) + 1 = ((j + 1 : Nat) : Int) := by omega
          go_roundg (no - (j + 1) + 1)
          case measure => have := HK.out; omega
          case rel =>
            refine ⟨j + 1, by rw [hNO], by omega, rfl, ?_, ?_, F7.out⟩
            · rw [← hw1]
            · rw [feedOuts_succ kc _ _ j tj HTJ.out]; exact K5.out
    · have h1 : (i : Int) < (ni : Int) := by omega
      have h2 : (0 : Int) ≤ (i : Int) := by omega
      obtain ⟨x, q, rfl, hcells⟩ := H2.out.2 (by omega)
      obtain ⟨v, hv⟩ : ∃ v, vi[i]? = some v := ⟨vi[i]'(by rw [H2.out.1]; omega), List.getElem?_eq_getElem _⟩
      obtain ⟨ti, hti⟩ : ∃ v, t.ins[i]? = some v := ⟨t.ins[i]'(by omega), List.getElem?_eq_getElem _⟩
      obtain ⟨p, po, cx, A, c, rfl, hp, hr, e1, e2, e3, e4, hcc, hn, hC, hA⟩ := (H4.out.2 i v ti hv hti).below bx
      have hcl := at_below bx (hcells i _ hv) (H3.out x q rfl)
      have yv := (H1.out.below bx hm).c0
      have HT := txIn_wr kc wr d b p po ti.scr.length c A ti.scr _ cx pv (.int .i32 t.ver) hw hr e4 hC (fun x y e => by have := hA x y e; omega) hcc hn (by omega) (by omega)
      rw [e1, e2, e3] at HT
      have HT := Lib.hid HT
      have F4 := Lib.hid hf
      have HK := Lib.hid hk
      have HTI := Lib.hid hti
      clear hw hf bx K3 F3 hk hr e1 e2 e3 e4 hcells hv hC hA hti hcc hn
      go_wp2_with fail
      refine HT.out.mono ?_
      rintro e w4 ⟨rfl, k4, f4⟩
      have K4 := Lib.hid k4
      have F5 := Lib.hid (F4.out.trans f4)
      clear k4 f4 HT F4 hcl yv
      go_wp2_with fail
      have hw1 : (i : Int) + 1 = ((i + 1 : Nat) : Int) := by omega
      go_roundg (ni - (i + 1) + 1)
      case measure => have := HK.out; omega
      case rel =>
        refine ⟨i + 1, by rw [hNI], by omega, rfl, ?_, ?_, F5.out⟩
        · rw [← hw1]
        · rw [feedIns_succ kc _ _ i ti HTI.out]; exact K4.out
end Go.Proofs.YtkgihpebghmnbaaGreatDoor

namespace Go.Proofs.YtkgihpebghmnbaaGreatDoor
open Go.RowKit Go.Proofs

set_option maxRecDepth 100000

theorem make88 : ∀ w : World, (Instr.makeSlice 30 (.int .i64 8) (.int .i64 8)).run Tryz.prog w = .ok (.slice (some ⟨w.heap.size, 0, none⟩) 8 8) (w.alloc (.cells (Array.replicate 8 (.int .u8 0)) 5)) := fun _ => by kernel_rfl

theorem size_alloc1 (w : World) (o : Obj) : (w.alloc o).heap.size = w.heap.size + 1 := by simp
theorem borrow_any (w : World) : Calls Tryz.prog 97 #[.agg #[]] w fun e w' => ∃ b, e = .returned (.slice (some ⟨b, 0, none⟩) 8 8) ∧ w.heap.size ≤ b ∧ Blk w' b 5 (Array.replicate 8 (.int .u8 0)) ∧ Below w.heap.size w w' := by
  have hm := make88
  go_enter Tryz.func97, Tryz.ntmps97
  go_wp2
  go_ret
  refine ⟨w.heap.size + 1, ?_, by omega, ?_, ((Below.refl _ _).alloc (Nat.le_refl _) _).alloc (by simp) _⟩
  · simp
  have := Blk.new (w.alloc (.cells #[] 183)) 5 (Array.replicate 8 (.int .u8 0))
  rw [size_alloc1] at this
  exact this

theorem giveback_deferred (u : FrameMode) (w : World) (x : Value) : CallsD Tryz.prog 98 #[.agg #[], x] u w fun e u' w' => u' = u ∧ e = .returned (.tuple #[]) ∧ Below w.heap.size w w' := by
  go_enter_d Tryz.func98, Tryz.ntmps98
  go_wp2
  all_goals go_end0
  all_goals exact ⟨rfl, (Below.refl _ _).alloc (Nat.le_refl _) _⟩

set_option maxHeartbeats 2000000 in
theorem encode_any (kc : Nat → Int) (B : Nat) (w : World) (d m o : Nat) (t : TX) (s : Sh) (pv : Value) (hd : Dg w d s) (hs : ShOk s) (hk : KT kc w) (hkd : 3 ≠ d) (ht : TxAt B w m o t) (hBd : B ≤ d) (hi : t.ins.length ≤ 1000000) (hoo : t.outs.length ≤ 1000000) :
    Calls Tryz.prog 73 #[.pointer (some ⟨m, o, none⟩), .iface 181 (.pointer (some ⟨d, 0, none⟩)), pv, .int .u32 1] w fun e w' =>
      e = .returned .nilIface ∧ Dg w' d (feedTx kc s t) ∧ Fm (M1 d) w w' := by
  have HB := Lib.hid (borrow_any w)
  have hdl := hd.1.lt
  have hkl := hk.lt
  have HD := Lib.hid hd
  have HK := Lib.hid hk
  have HT := Lib.hid ht
  clear hd hk ht
  go_enter_defers Tryz.func73, Tryz.ntmps73
  go_wp2_with fail
  refine HB.out.mono ?_
  rintro e w1 ⟨b, rfl, hb, hb1, bl⟩
  have blB := bl.mono (Nat.le_trans hBd (Nat.le_of_lt hdl))
  have hw1 : Wr kc w1 d b s := ⟨HD.out.below bl, hs, HK.out.below bl, ⟨_, hb1, by simp⟩, by omega, hkd, by omega⟩
  have HE := Lib.hid (btcEncode_wr kc B w1 d b m o t s pv hw1 (HT.out.below blB) hBd (by omega) hi hoo)
  have BL := Lib.hid bl
  clear hw1 hb1 bl blB HB HD HK HT
  go_wp2_with fail
  refine HE.out.mono ?_
  rintro e w2 ⟨rfl, h2, f2⟩
  have H2 := Lib.hid h2
  have F2 := Lib.hid f2
  clear h2 f2 HE
  go_wp2
  refine leaves_cons (f := 98) (args := #[.agg #[], .slice (some ⟨b, 0, none⟩) 8 8]) (by simp) (by simp [go_sem]) ?_
  refine (giveback_deferred .returning w2 _).mono ?_
  rintro e u' w3 ⟨rfl, rfl, b3⟩
  refine ⟨_, results_tmp rfl _ _ _, rfl, H2.out.dg.below b3, ?_⟩
  exact ((Fm.of_below (M := M1 d) BL.out).trans' F2.out (fun j hj hm => by
    rcases hm with hm | hm
    · exact hm
    · omega)).trans (Fm.of_below b3)

set_option maxHeartbeats 2000000 in
theorem serialize_any (kc : Nat → Int) (B : Nat) (w : World) (d m o : Nat) (t : TX) (s : Sh) (hd : Dg w d s) (hs : ShOk s) (hk : KT kc w) (hkd : 3 ≠ d) (ht : TxAt B w m o t) (hBd : B ≤ d) (hi : t.ins.length ≤ 1000000) (hoo : t.outs.length ≤ 1000000) :
    Calls Tryz.prog 47 #[.pointer (some ⟨m, o, none⟩), .iface 181 (.pointer (some ⟨d, 0, none⟩))] w fun e w' =>
      e = .returned .nilIface ∧ Dg w' d (feedTx kc s t) ∧ Fm (M1 d) w w' := by
  have HE := Lib.hid (encode_any kc B w d m o t s (.int .u32 0) hd hs hk hkd ht hBd hi hoo)
  clear hd hk ht
  go_enter Tryz.func47, Tryz.ntmps47
  go_wp2_with fail
  refine HE.out.mono ?_
  rintro e w1 ⟨rfl, h1, f1⟩
  have H1 := Lib.hid h1
  have F1 := Lib.hid f1
  clear h1 f1 HE
  go_wp2
  go_ret
  exact ⟨rfl, H1.out, F1.out⟩

/-- What the hash of a signature is fed. -/
def feedSig (kc : Nat → Int) (t : TX) (kind : Int) : Sh := (feedTx kc Sh0 t).feed kc (le32b kind)

theorem feedIns_ok (kc : Nat → Int) (ts : List TI) : ∀ (s : Sh), ShOk s → ShOk (feedIns kc s ts) := by
  induction ts with
  | nil => exact fun s h => h
  | cons t r ih => exact fun s h => ih _ (((((h.feed kc _).feed kc _).feed kc _).feed kc _).feed kc _)
theorem feedOuts_ok (kc : Nat → Int) (ts : List TO) : ∀ (s : Sh), ShOk s → ShOk (feedOuts kc s ts) := by
  induction ts with
  | nil => exact fun s h => h
  | cons t r ih => exact fun s h => ih _ (((h.feed kc _).feed kc _).feed kc _)
theorem feedTx_ok (kc : Nat → Int) (s : Sh) (t : TX) (h : ShOk s) : ShOk (feedTx kc s t) := (feedOuts_ok kc _ _ ((feedIns_ok kc _ _ ((h.feed kc _).feed kc _)).feed kc _)).feed kc _

set_option maxHeartbeats 2000000 in
theorem sigClosure_any (kc : Nat → Int) (B : Nat) (w : World) (d m o k : Nat) (t : TX) (kind : Int) (hd : Dg w d Sh0) (hk : KT kc w) (hkd : 3 ≠ d) (ht : TxAt B w m o t) (hBd : B ≤ d) (hkk : w.cell? ⟨k, 0, none⟩ = some (.int .u32 kind)) (hkB : k < B) (hi : t.ins.length ≤ 1000000) (hoo : t.outs.length ≤ 1000000) :
    Calls Tryz.prog 46 #[.iface 181 (.pointer (some ⟨d, 0, none⟩)), .pointer (some ⟨m, o, none⟩), .pointer (some ⟨k, 0, none⟩)] w fun e w' => e = .returned .nilIface ∧ Dg w' d (feedSig kc t kind) ∧ Fm (M1 d) w w' := by
  have HE := Lib.hid (serialize_any kc B w d m o t Sh0 hd ShOk.zero hk hkd ht hBd hi hoo)
  have HK := Lib.hid hk
  have HC := Lib.hid hkk
  have hdl := hd.1.lt
  clear hd hk ht hkk
  go_enter Tryz.func46, Tryz.ntmps46
  go_wp2_with fail
  refine HE.out.mono ?_
  rintro e w1 ⟨rfl, h1, f1⟩
  have b1 := f1.toBelow (B := B) (by omega) (fun j hj (hm : j = d) => by omega)
  have c1 := at_below b1 HC.out hkB
  have HW := Lib.hid (wu32_any kc w1 d _ kind h1 (feedTx_ok kc _ t ShOk.zero) (HK.out.frm f1 hkd) hkd)
  have F1 := Lib.hid f1
  clear h1 f1 b1 HE HC
  go_wp2_with fail
  refine HW.out.mono ?_
  rintro e w2 ⟨rfl, h2, f2⟩
  have H2 := Lib.hid h2
  have F2 := Lib.hid (F1.out.trans f2)
  clear h2 f2 HW F1
  go_wp2
  go_ret
  exact ⟨rfl, H2.out, F2.out⟩
end Go.Proofs.YtkgihpebghmnbaaGreatDoor

namespace Go.Proofs.YtkgihpebghmnbaaGreatDoor
open Go.RowKit Go.Proofs

section
variable {P : Program} {ops : Array Oper} {Q : Exit → Act → World → Prop} {md : Region.Mode} {S : World → Prop} {F : List Nat}

/-- Whatever order is picked from here on, and S holds behind every operation that is carried out but those of F. -/
def wpAnyF (P : Program) (md : Region.Mode) (ops : Array Oper) (Q : Exit → Act → World → Prop) (S : World → Prop) (F : List Nat) : Nat → Array Bool → Act → World → Prop
  | 0, listed, a, w => Region.ready md ops listed = [] ∧ Q .normal a w
  | fuel + 1, listed, a, w =>
    (Region.ready md ops listed = [] → Q .normal a w) ∧
    ∀ i ∈ Region.ready md ops listed, wpOp P ops Q i (fun a' w' => (i ∈ F ∨ S w') ∧ wpAnyF P md ops Q S F fuel (listed.setIfInBounds i true) a' w') a w

theorem wpAny_of_f : ∀ (fuel : Nat) (listed : Array Bool) (a : Act) (w : World), wpAnyF P md ops Q S F fuel listed a w → wpAny P md ops Q fuel listed a w
  | 0, _, _, _, h => h
  | fuel + 1, _, _, _, h => ⟨h.1, fun i hi => wpOp_mono (fun a' w' h' => wpAny_of_f fuel _ a' w' h'.2) (h.2 i hi)⟩

/-- The operations of F wait for number i. -/
def waits (md : Region.Mode) (ops : Array Oper) (F : List Nat) (i : Nat) : Bool := F.all fun j => match ops[j]? with | some o => o.after.any fun e => Region.binds md e && e.on == i | none => false
theorem waits_spec {i j : Nat} {o : Oper} (h : waits md ops F i = true) (hj : j ∈ F) (ho : ops[j]? = some o) : ∃ e ∈ o.after, Region.binds md e = true ∧ e.on = i := by
  have h1 := List.all_eq_true.1 h j hj
  simp only [ho] at h1
  obtain ⟨e, he, hb⟩ := Array.any_eq_true'.1 h1
  simp only [Bool.and_eq_true, beq_iff_eq] at hb
  exact ⟨e, he, hb.1, hb.2⟩

theorem wpAnyF_first {i : Nat} {oi : Oper} {v : Value} (hi : ops[i]? = some oi) (hsel : ∀ (j : Nat) (o : Oper) cs b, ops[j]? = some o → o.op ≠ .select cs b)
    (hQ : ∀ c a w, Q (.panic c) (a.put oi.dst v) w → Q (.panic c) a w) (hF : waits md ops F i = true) :
    ∀ (fuel : Nat) (listed : Array Bool) (a : Act) (w : World),
      (∀ j oj, ops[j]? = some oj → j ≠ i → listed.getD j true = false → (∀ e ∈ oj.after, Region.binds md e = true → e.on ≠ i) → oi.apart ops oj = true) →
      i ∈ Region.ready md ops listed → YieldsIf P ops S oi v a → S w →
      wpAnyF P md ops Q S F fuel (listed.setIfInBounds i true) (a.put oi.dst v) w → wpAnyF P md ops Q S F (fuel + 1) listed a w := by
  intro fuel
  induction fuel with
  | zero =>
    intro listed a w _ hr hy hS H
    refine ⟨fun h => (by rw [h] at hr; cases hr), fun j hj => ?_⟩
    by_cases hji : j = i
    · subst hji; exact hy.wpOp hi hS ⟨.inr hS, H⟩
    · have := ready_mono hj hji
      rw [H.1] at this
      cases this
  | succ fuel ih =>
    intro listed a w hfree hr hy hS H
    refine ⟨fun h => (by rw [h] at hr; cases hr), fun j hj => ?_⟩
    by_cases hji : j = i
    · subst hji; exact hy.wpOp hi hS ⟨.inr hS, H⟩
    · have h1 := H.2 j (ready_mono hj hji)
      obtain ⟨hjun, oj, hoj, hall⟩ := mem_ready.1 hj
      have hnot : ∀ e ∈ oj.after, Region.binds md e = true → e.on ≠ i := fun e he hb heq => by
        have h1 := hall e he hb
        have h0 := (mem_ready.1 hr).1
        rw [heq] at h1
        rcases Nat.lt_or_ge i listed.size with h' | h'
        · simp [h'] at h0 h1; rw [h0] at h1; cases h1
        · simp [Array.getElem?_eq_none h'] at h1
      have hjF : j ∉ F := fun hm => by
        obtain ⟨e, he, hb, heq⟩ := waits_spec hF hm hoj
        exact hnot e he hb heq
      have h2 := wpOp_putIf hoj (hfree j oj hoj hji hjun hnot) (fun cs b => hsel i oi cs b hi) (fun cs b => hsel j oj cs b hoj) hQ hy h1
      have hfree' : ∀ k ok, ops[k]? = some ok → k ≠ i → (listed.setIfInBounds j true).getD k true = false →
          (∀ e ∈ ok.after, Region.binds md e = true → e.on ≠ i) → oi.apart ops ok = true := fun k ok hk hki hun hno => by
        refine hfree k ok hk hki ?_ hno
        by_cases hjk : j = k
        · subst hjk; exact hjun
        · rw [getD_set_ne true hjk] at hun; exact hun
      refine wpOp_mono (fun a' w' h3 => ?_) h2
      have hS' : S w' := h3.2.1.resolve_left hjF
      refine ⟨.inr hS', ih (listed.setIfInBounds j true) a' w' hfree' (ready_mono hr (Ne.symm hji)) h3.1 hS' ?_⟩
      rw [Array.setIfInBounds_comm _ _ hji]
      exact h3.2.2

/-- Operation number i is taken first; its value goes into slot d. -/
theorem f_take (i d : Nat) {oi : Oper} (v : Value) {fuel : Nat} {listed : Array Bool} {l : List Value} {ds : List Deferred} {w : World} (hi : ops[i]? = some oi) (hd : oi.dst = some d)
    (hs : Region.noSelect ops = true) (hf : Region.free md ops listed i = true) (hr : (Region.ready md ops listed).contains i = true) (hF : waits md ops F i = true)
    (hQ : ∀ c a w, Q (.panic c) (a.put oi.dst v) w → Q (.panic c) a w) (hy : YieldsIf P ops S oi v ⟨l.toArray, ds⟩) (hS : S w)
    (h : wpAnyF P md ops Q S F fuel (listed.setIfInBounds i true) ⟨(l.set d v).toArray, ds⟩ w) : wpAnyF P md ops Q S F (fuel + 1) listed ⟨l.toArray, ds⟩ w := by
  refine wpAnyF_first hi (Region.noSelect_spec hs) hQ hF fuel listed _ w (Region.free_spec hi hf) (by simpa using hr) hy hS ?_
  rw [hd]
  simpa [Act.put] using h

def AllReadyF (P : Program) (md : Region.Mode) (ops : Array Oper) (Q : Exit → Act → World → Prop) (S : World → Prop) (F : List Nat) (fuel : Nat) (listed : Array Bool) (a : Act) (w : World) (rs : List Nat) : Prop :=
  ∀ i ∈ rs, wpOp P ops Q i (fun a' w' => (i ∈ F ∨ S w') ∧ wpAnyF P md ops Q S F fuel (listed.setIfInBounds i true) a' w') a w
theorem AllReadyF.nil {fuel : Nat} {listed : Array Bool} {a : Act} {w : World} : AllReadyF P md ops Q S F fuel listed a w [] := fun _ h => by cases h
theorem AllReadyF.cons {fuel : Nat} {listed : Array Bool} {a : Act} {w : World} {i : Nat} {o : Oper} {rs : List Nat} (ho : ops[i]? = some o)
    (h : ∀ K' : Act → World → Prop, Shut (∀ a w, (i ∈ F ∨ S w) → ((i ∈ F ∨ S w) → wpAnyF P md ops Q S F fuel (listed.setIfInBounds i true) a w) → K' a w) → if Region.wanted o (yielded ops a.tmps) = true then Oper.wp P o a w K' Q else K' (a.put o.dst undef) w)
    (hs : AllReadyF P md ops Q S F fuel listed a w rs) : AllReadyF P md ops Q S F fuel listed a w (i :: rs) := fun j hj => by
  rcases List.mem_cons.1 hj with rfl | hj
  · exact wpOp_step ho (fun K' hK => h K' (fun a w hS hW => hK a w ⟨hS, hW hS⟩))
  · exact hs j hj
theorem wpAnyF_ready {rs : List Nat} {fuel : Nat} {listed : Array Bool} {a : Act} {w : World} (hr : Region.ready md ops listed = rs) (hne : rs ≠ [])
    (h : AllReadyF P md ops Q S F fuel listed a w rs) : wpAnyF P md ops Q S F (fuel + 1) listed a w := ⟨fun h0 => absurd (hr ▸ h0) hne, hr ▸ h⟩
theorem wpAnyF_done {listed : Array Bool} {a : Act} {w : World} (hr : Region.ready md ops listed = []) (h : Q .normal a w) : ∀ fuel, wpAnyF P md ops Q S F fuel listed a w
  | 0 => ⟨hr, h⟩
  | _ + 1 => ⟨fun _ => h, by rw [hr]; simp⟩
theorem wp_region_f_drew {id : Nat} {a : Act} {w : World} (hm : P.follows .mixedOrders = true) (hS : S w.drew)
    (h : S w.drew → wpAnyF P .any ops Q S F ops.size (Array.replicate ops.size false) a w.drew) : (Code.region id ops true).wp P Q a w :=
  wp_region_any hm (wpAny_of_f _ _ _ _ (h hS))
end
end Go.Proofs.YtkgihpebghmnbaaGreatDoor
