/- CHECKSIG on the machine. The plain law: what a signature speaks of. -/
import Derived.Test.YtkgihpebghmnbaaGreatDoorG34
import Derived.Test.YtkgihpebghmnbaaGreatDoorRowc
import Derived.Test.YtkgihpebghmnbaaGreatDoorG30
namespace Go.Proofs.YtkgihpebghmnbaaGreatDoor
open Go.RowKit Go.Proofs

set_option maxRecDepth 100000

/-- A truth as it lies on the stack. -/
def boolB (v : Bool) : List UInt8 := if v then [1] else []

theorem fromBool0 (w : World) : Calls Tryz.prog 229 #[.bool false] w fun e w' => e = .returned (.slice none 0 0) ∧ w = w' := by
  go_enter Tryz.func229, Tryz.ntmps229
  go_wp2
  go_ret
  exact ⟨rfl, rfl⟩
theorem fromBool1 (w : World) : Calls Tryz.prog 229 #[.bool true] w fun e w' => e = .returned (.slice (some ⟨w.heap.size, 0, none⟩) 1 1) ∧ w.alloc (.cells #[.int .u8 1] 5) = w' := by
  go_enter Tryz.func229, Tryz.ntmps229
  go_wp2
  go_ret
  exact ⟨rfl, rfl⟩

theorem pushBool_vm (w : World) (g : Nat) (B : Bd) (cs : Array Value) (xss : List (List UInt8)) (v : Bool) (h : Vm w g B cs xss) (hn : xss.length ≤ 100000) :
    Calls Tryz.prog 204 #[.pointer (some ⟨g, 23, none⟩), .bool v] w fun e w' => e = .returned (.tuple #[]) ∧ ∃ cs', Vm w' g B cs' (xss ++ [boolB v]) ∧ K23 cs cs' ∧ Fs g B w w' := by
  cases v
  · have H := Lib.hid (push_vm w g B cs xss (.slice none 0 0) [] h (Rd.nil _ _ _ _) hn)
    clear h
    go_enter Tryz.func204, Tryz.ntmps204
    go_wp2_with fail
    refine (fromBool0 w).mono ?_
    rintro e w1 ⟨rfl, rfl⟩
    go_wp2_with fail
    refine H.out.mono ?_
    rintro e w1 ⟨rfl, h1⟩
    have H1 := Lib.hid h1
    clear h1
    go_wp2
    go_end0
    exact ⟨rfl, H1.out⟩
  · have hb1 : Below w.heap.size w (w.alloc (.cells #[.int .u8 1] 5)) := (Below.refl _ _).alloc (Nat.le_refl _) _
    have hr : Rd 0 (w.alloc (.cells #[.int .u8 1] 5)) (.slice (some ⟨w.heap.size, 0, none⟩) 1 1) [1] := rd_blk (bs := [1]) (Blk.new w 5 #[.int .u8 1]) rfl (by decide)
    have H := Lib.hid (push_vm _ g B cs xss _ [1] (h.below hb1) hr hn)
    have HF : Hid (Fs g B w (w.alloc (.cells #[.int .u8 1] 5))) := Fs.of_below hb1
    clear h hb1 hr
    go_enter Tryz.func204, Tryz.ntmps204
    go_wp2_with fail
    refine (fromBool1 w).mono ?_
    rintro e w1 ⟨rfl, rfl⟩
    go_wp2_with fail
    refine H.out.mono ?_
    rintro e w1 ⟨rfl, cs', h1, h2, h3⟩
    have H1 := Lib.hid h1
    have H2 := Lib.hid h2
    have H3 := Lib.hid (HF.out.trans h3)
    clear h1 h2 h3
    go_wp2
    go_end0
    exact ⟨rfl, cs', H1.out, H2.out, H3.out⟩

/-- What CHECKSIG needs of the machine: its cells, the transaction, the script. -/
structure SigIn (kc : Nat → Int) (w : World) (g : Nat) (B : Bd) (cs : Array Value) (fl : Int) (st de nf : Bool) (scb si n c idx : Nat) (A : Option Addr) (ts : List Tok) (t : TX) : Prop where
  fs : FlS fl st de nf
  h0 : cs[0]? = some (.int .u32 fl)
  tx : ∃ Vi Vo, cs[1]? = some (.int .i32 t.ver) ∧ cs[2]? = some Vi ∧ cs[3]? = some Vo ∧ cs[4]? = some (.int .u32 t.lock) ∧ TxRows g w Vi Vo t
  h5 : cs[5]? = some (.int .i64 idx)
  h11 : cs[11]? = some (.slice (some ⟨scb, 0, none⟩) 2 2)
  h12 : cs[12]? = some (.int .i64 si)
  h14 : cs[14]? = some (.int .i64 0)
  h30 : cs[30]? = some (.slice none 0 0)
  h32 : cs[32]? = some (.pointer none)
  si2 : si < 2
  sc : w.cell? ⟨scb, si, none⟩ = some (.slice A n c)
  scB : scb < B.n
  scg : scb ≠ g
  gB : g ≤ B.n
  rd : Rd 0 w (.slice A n c) (code ts)
  toks : ∀ t ∈ ts, TokS t
  sep : ∀ t ∈ ts, t.op ≠ 171
  can : ∀ t ∈ ts, Canon t
  short : ∀ t ∈ ts, t.data.length ≠ 13
  n0 : 0 < n
  n1 : n ≤ 100000
  ix : idx < t.ins.length
  ni : t.ins.length ≤ 1000000
  no : t.outs.length ≤ 1000000
  kt : KT kc w
  kB : 3 < B.n
  kg : 3 ≠ g

theorem Fs.belowg {g : Nat} {B : Bd} {w w' : World} (h : Fs g B w w') (hg : g ≤ B.n) (hw : g ≤ w.heap.size) : Below g w w' := Fm.toBelow h hw fun k hk hm => by
  rcases hm with rfl | ⟨h1, -⟩ <;> omega

/-- It stands where the machine's stack has turned. -/
theorem SigIn.step {kc : Nat → Int} {w w' : World} {g : Nat} {B : Bd} {cs cs' : Array Value} {fl : Int} {st de nf : Bool} {scb si n c idx : Nat} {A : Option Addr} {ts : List Tok} {t : TX} (h : SigIn kc w g B cs fl st de nf scb si n c idx A ts t)
    (hb : Blk w g 111 cs) (hf : Fs g B w w') (hk : ∀ i, i < 12 ∨ i = 12 ∨ i = 14 ∨ i = 30 ∨ i = 32 → cs'[i]? = cs[i]?) : SigIn kc w' g B cs' fl st de nf scb si n c idx A ts t := by
  obtain ⟨Vi, Vo, t1, t2, t3, t4, t5⟩ := h.tx
  exact { fs := h.fs, h0 := (hk 0 (by omega)).trans h.h0, tx := ⟨Vi, Vo, (hk 1 (by omega)).trans t1, (hk 2 (by omega)).trans t2, (hk 3 (by omega)).trans t3, (hk 4 (by omega)).trans t4, t5.below (hf.belowg h.gB (Nat.le_of_lt hb.lt))⟩
          h5 := (hk 5 (by omega)).trans h.h5, h11 := (hk 11 (by omega)).trans h.h11, h12 := (hk 12 (by omega)).trans h.h12, h14 := (hk 14 (by omega)).trans h.h14, h30 := (hk 30 (by omega)).trans h.h30, h32 := (hk 32 (by omega)).trans h.h32
          si2 := h.si2, sc := hf.cell h.sc h.scB h.scg, scB := h.scB, scg := h.scg, gB := h.gB, rd := hf.rd hb h.rd, toks := h.toks, sep := h.sep, can := h.can, short := h.short, n0 := h.n0, n1 := h.n1, ix := h.ix, ni := h.ni, no := h.no
          kt := h.kt.frm hf (by rintro (e | ⟨e, -⟩); exact h.kg e; have := h.kB; omega), kB := h.kB, kg := h.kg }

theorem rd_at {w : World} {A : Option Addr} {n c N : Nat} {bs : List UInt8} (h : Rd 0 w (.slice A n c) bs) (h0 : 0 < n) (hN : w.heap.size ≤ N) : ∀ x y, A = some ⟨x, y, none⟩ → x < N := by
  rintro x y rfl
  obtain ⟨b, o, e, hc⟩ := h.cell (j := 0) h0
  injection e with e
  injection e with e1 e2
  subst e1
  exact Nat.lt_of_lt_of_le (World.block_lt_of_cell? w _ hc) hN

/-- Whether the signature is right. -/
def sigOk (kc : Nat → Int) (ts : List Tok) (m0 m1 m2 m3 k : UInt8) (b : Nat) (any : Bool) (idx : Nat) (t : TX) (key : List UInt8) : Bool := [m0, m1, m2, m3] == (sha kc (sigHash kc (code ts) k.toNat b any idx t ++ key)).take 4

/-- What CHECKSIG leaves: a truth, or a fault where a wrong signature must be empty. -/
def CsPost (w : World) (g : Nat) (B : Bd) (cs : Array Value) (xss : List (List UInt8)) (ok nf : Bool) (r : Value) (w' : World) : Prop :=
  ((ok = true ∨ nf = false) → r = .nilIface ∧ ∃ cs', Vm w' g B cs' (xss ++ [boolB ok]) ∧ K23 cs cs' ∧ Fs g B w w') ∧
  (ok = false ∧ nf = true → Fault r ∧ ∃ cs', Vm w' g B cs' xss ∧ K23 cs cs' ∧ Fs g B w w')

set_option maxHeartbeats 4000000 in
theorem checkSig_vm (kc : Nat → Int) (w : World) (g : Nat) (B : Bd) (cs : Array Value) (xss : List (List UInt8)) (fl : Int) (st de nf : Bool) (scb si n c idx b : Nat) (A : Option Addr) (ts : List Tok) (t : TX) (m0 m1 m2 m3 k k0 : UInt8) (kr : List UInt8) (any : Bool) (op data : Value)
    (hV : Vm w g B cs (xss ++ [sigB m0 m1 m2 m3 k] ++ [k0 :: kr])) (hx : xss.length ≤ 1000) (hI : SigIn kc w g B cs fl st de nf scb si n c idx A ts t) (hkr : kr.length = 32) (hk0 : k0 = 2 ∨ k0 = 3)
    (hb : bits .and .u32 k.toNat 31 = b) (hb3 : b = 1 ∨ b = 2 ∨ b = 3) (hany : bits .and .u32 k.toNat 128 = if any then 128 else 0) (hbb : bits .and .u32 k.toNat 4294967167 = b) :
    Calls Tryz.prog 169 #[op, data, .pointer (some ⟨g, 0, none⟩)] w fun e w' => ∃ r, e = .returned r ∧ CsPost w g B cs xss (sigOk kc ts m0 m1 m2 m3 k b any idx t (k0 :: kr)) nf r w' := by
  have HP := Lib.hid (pop_vm w g B cs (xss ++ [sigB m0 m1 m2 m3 k]) (k0 :: kr) hV (by simp; omega))
  have HI := Lib.hid hI
  have HV := Lib.hid hV
  have hna := nilAhead_verify
  have hnq := nil_eq
  clear hV hI
  go_enter Tryz.func169, Tryz.ntmps169
  go_wp2_with fail
  refine HP.out.mono ?_
  rintro e w1 ⟨vk, rfl, hrk, cs1, hV1, hK1, hf1⟩
  have HI1 := Lib.hid (HI.out.step HV.out.blk hf1 (fun i hi => hK1 i (by omega)))
  have HP1 := Lib.hid (pop_vm w1 g B cs1 xss (sigB m0 m1 m2 m3 k) hV1 (by omega))
  have HV1 := Lib.hid hV1
  have HRK := Lib.hid hrk
  have HK1 := Lib.hid hK1
  have HF1 := Lib.hid hf1
  clear hrk hV1 hK1 hf1 HP HI
  go_wp2_with fail
  refine HP1.out.mono ?_
  rintro e w2 ⟨vs, rfl, hrs, cs2, hV2, hK2, hf2⟩
  have hI2 := HI1.out.step HV1.out.blk hf2 (fun i hi => hK2 i (by omega))
  have hrk2 := hf2.rd HV1.out.blk HRK.out
  have HF2 := Lib.hid (HF1.out.trans hf2)
  have HK2 := Lib.hid (HK1.out.trans hK2)
  have HV2 := Lib.hid hV2
  have HI2 := Lib.hid hI2
  have hbl := hV2.blk
  have c32 := (hbl.cell 32).trans hI2.h32
  have c30 := (hbl.cell 30).trans hI2.h30
  have c0 := (hbl.cell 0).trans hI2.h0
  have hgl := hbl.lt
  obtain ⟨Ak, kx, rfl, hkx⟩ := hrk2.slice
  have hkl : (k0 :: kr).length = 33 := by simp [hkr]
  rw [hkl] at hrk2 hkx
  obtain ⟨As, sx, rfl, hsx⟩ := hrs.slice
  change Rd 0 w2 (.slice As 13 sx) _ at hrs
  obtain ⟨kb, ko, rfl, hk0c⟩ := hrk2.cell (j := 0) (by omega)
  obtain ⟨sb, so, rfl, -⟩ := hrs.cell (j := 0) (by omega)
  change w2.cell? ⟨kb, ko, none⟩ = some (.int .u8 k0.toNat) at hk0c
  have hk0' : k0.toNat = 2 ∨ k0.toNat = 3 := by rcases hk0 with rfl | rfl <;> simp
  have HN := Lib.hid (newBase_any w2 g kb ko kx sb so sx scb si n c A fl b st de nf (k0 :: kr) k0.toNat m0 m1 m2 m3 k c0 hI2.fs hrk2 hk0c hk0' hrs hbb (by omega) (by omega) hI2.si2 ((hbl.cell 11).trans hI2.h11) ((hbl.cell 12).trans hI2.h12) ((hbl.cell 14).trans hI2.h14) hI2.sc hI2.rd.len.2)
  have HRS := Lib.hid hrs
  rw [hkl]
  have hsl : (sigB m0 m1 m2 m3 k).length = 13 := rfl
  rw [hsl]
  clear hV2 hI2 hrk2 hrs hk0c hK2 hf2 HI1 HP1 HV1 HRK HK1 HF1 hbl c0
  go_wp2_with fail
  refine HN.out.mono ?_
  rintro e w3 ⟨V, pk, sg, rfl, hVb, ho1, ho2, hb3'⟩
  obtain ⟨Vi, Vo, t1, t2, t3, t4, t5⟩ := HI2.out.tx
  have hbl := HV2.out.blk
  have htx : TxAt w2.heap.size w2 g 1 t := (t5.lift (Nat.le_of_lt hgl)).at hgl ⟨(hbl.cell 1).trans t1, (hbl.cell 2).trans t2, (hbl.cell 3).trans t3, (hbl.cell 4).trans t4⟩
  have HVF := Lib.hid (verify_any kc w2.heap.size w3 V g pk sg kb ko kx sb so sx n c idx b A m0 m1 m2 m3 k any ts t (k0 :: kr) (HI2.out.kt.below hb3') hVb ho2 ho1 hkl (htx.below hb3') hb3'.size (cell_keep hb3' ((hbl.cell 5).trans HI2.out.h5)) (HI2.out.rd.below hb3')
    (rd_at HI2.out.rd HI2.out.n0 hb3'.size) (HRS.out.below hb3') HI2.out.toks HI2.out.sep HI2.out.can (fun t ht e => HI2.out.short t ht (by rw [e]; rfl)) HI2.out.n0 HI2.out.n1 HI2.out.ix HI2.out.ni HI2.out.no hb hb3 hany)
  have HB3 := Lib.hid hb3'
  clear hVb ho1 ho2 hb3' t1 t2 t3 t4 t5 htx HN HRS hbl
  go_wp2_with fail
  refine HVF.out.mono ?_
  rintro e w4 ⟨rfl, hb4⟩
  have hok : ([m0, m1, m2, m3] == List.take 4 (sha kc (sigHash kc (code ts) k.toNat b any idx t ++ k0 :: kr))) = sigOk kc ts m0 m1 m2 m3 k b any idx t (k0 :: kr) := rfl
  rw [hok]
  clear hok
  generalize hoke : sigOk kc ts m0 m1 m2 m3 k b any idx t (k0 :: kr) = ok at *
  have HOK := Lib.hid hoke
  clear hoke
  have hb24 := HB3.out.trans (hb4.mono HB3.out.size)
  have hb25 := hb24.alloc hb24.size (.cells #[.bool ok, .bool false] 239)
  have HV5 := Lib.hid (HV2.out.below hb25)
  have HF5 := Lib.hid (HF2.out.below hb25)
  have c0' := cell_keep hb25 ((HV2.out.blk.cell 0).trans HI2.out.h0)
  have c32' := cell_keep hb25 c32
  have HFS := Lib.hid HI2.out.fs
  clear hb24 hb25 hb4 HB3 HVF HV2 HF2 HI2 c32 c30
  go_wp2_with fail
  generalize w4.alloc (.cells #[.bool ok, .bool false] 239) = w5 at *
  have hbl5 := HV5.out.blk.lt
  refine (hasFlag_any w5 g fl 1048576 _ HFS.out.co c0').mono ?_
  rintro e w6 ⟨rfl, rfl⟩
  cases ok with
  | true =>
    have HPB := Lib.hid (pushBool_vm w5 g B cs2 xss true HV5.out (by omega))
    go_wp2_with fail
    refine HPB.out.mono ?_
    rintro e w6 ⟨rfl, cs3, hV6, hK6, hf6⟩
    have HV6 := Lib.hid hV6
    have HK6 := Lib.hid (HK2.out.trans hK6)
    have HF6 := Lib.hid (HF5.out.trans hf6)
    clear hV6 hK6 hf6
    go_wp2
    go_ret
    rw [HOK.out]
    exact ⟨_, rfl, fun _ => ⟨rfl, cs3, HV6.out, HK6.out, HF6.out⟩, fun h => Bool.noConfusion h.1⟩
  | false =>
    go_wp2_with fail
    refine (hasFlag_any w5 g fl 512 _ HFS.out.nf c0').mono ?_
    rintro e w6 ⟨rfl, rfl⟩
    cases nf with
    | false =>
      have HPB := Lib.hid (pushBool_vm w5 g B cs2 xss false HV5.out (by omega))
      go_wp2_with fail
      refine HPB.out.mono ?_
      rintro e w6 ⟨rfl, cs3, hV6, hK6, hf6⟩
      have HV6 := Lib.hid hV6
      have HK6 := Lib.hid (HK2.out.trans hK6)
      have HF6 := Lib.hid (HF5.out.trans hf6)
      clear hV6 hK6 hf6
      go_wp2
      go_ret
      rw [HOK.out]
      exact ⟨_, rfl, fun _ => ⟨rfl, cs3, HV6.out, HK6.out, HF6.out⟩, fun h => Bool.noConfusion h.2⟩
    | true =>
      go_wp2_with fail
      refine (scriptError_any _ _ _).mono ?_
      rintro e w6 ⟨rfl, hb6⟩
      have HV6 := Lib.hid (HV5.out.below hb6)
      have HF6 := Lib.hid (HF5.out.below hb6)
      clear hb6
      go_wp2
      go_ret
      rw [HOK.out]
      exact ⟨_, rfl, fun h => h.elim (fun h => Bool.noConfusion h) (fun h => Bool.noConfusion h), fun _ => ⟨⟨52, _, rfl, by omega, by omega⟩, cs2, HV6.out, HK2.out, HF6.out⟩⟩
end Go.Proofs.YtkgihpebghmnbaaGreatDoor

namespace Go.Proofs.YtkgihpebghmnbaaGreatDoor
open Go.RowKit Go.Proofs

/-- The transaction with another value at an output. -/
def PT.out1 (p : PT) (k : Nat) (q : TO) (v : Int) : PT := { p with outs := p.outs.set k ⟨v, q.scr⟩ }
/-- The transaction with another script at an input. -/
def PT.in1 (p : PT) (k : Nat) (q : PI) (scr : List UInt8) : PT := { p with ins := p.ins.set k (q.scr1 scr) }

theorem sigIns_in1 (scr : List UInt8) (b : Nat) (any : Bool) (idx : Nat) (p : PT) (k : Nat) (q : PI) (s : List UInt8) (hq : p.ins[k]? = some q) : sigIns scr b any idx (p.in1 k q s).tx.ins = sigIns scr b any idx p.tx.ins := by
  have h : ((p.in1 k q s).tx.ins).mapIdx (fScr scr idx) = (p.tx.ins).mapIdx (fScr scr idx) := by
    apply List.ext_getElem?
    intro j
    rw [List.getElem?_mapIdx, List.getElem?_mapIdx]
    show (((p.ins.set k (q.scr1 s)).map PI.ti)[j]?).map _ = ((p.ins.map PI.ti)[j]?).map _
    rw [List.getElem?_map, List.getElem?_map, List.getElem?_set]
    split
    · rename_i e
      subst e
      rw [hq, if_pos (List.getElem?_eq_some_iff.1 hq).1]
      rfl
    · rfl
  unfold sigIns
  rw [h]

theorem sigHash_in1 (kc : Nat → Int) (scr : List UInt8) (kind : Int) (b : Nat) (any : Bool) (idx : Nat) (p : PT) (k : Nat) (q : PI) (s : List UInt8) (hq : p.ins[k]? = some q) : sigHash kc scr kind b any idx (p.in1 k q s).tx = sigHash kc scr kind b any idx p.tx := by
  have h : sigTx scr b any idx (p.in1 k q s).tx = sigTx scr b any idx p.tx := by
    unfold sigTx
    rw [sigIns_in1 scr b any idx p k q s hq]
    rfl
  unfold sigHash
  rw [h]
  rfl

theorem sigHash_out1 (kc : Nat → Int) (scr : List UInt8) (kind : Int) (b : Nat) (any : Bool) (idx : Nat) (p : PT) (k : Nat) (q : TO) (v : Int) (hb : b = 2 ∨ (b = 3 ∧ k ≠ idx)) : sigHash kc scr kind b any idx (p.out1 k q v).tx = sigHash kc scr kind b any idx p.tx := by
  have hl : (p.out1 k q v).tx.outs.length = p.tx.outs.length := by simp [PT.out1, PT.tx]
  have h : sigTx scr b any idx (p.out1 k q v).tx = sigTx scr b any idx p.tx := by
    have ho : sigOuts b idx (p.out1 k q v).tx.outs = sigOuts b idx p.tx.outs := by
      unfold sigOuts
      rcases hb with rfl | ⟨rfl, hk⟩
      · rfl
      · rw [if_neg (by omega), if_neg (by omega), if_neg (by omega), if_neg (by omega)]
        apply List.ext_getElem?
        intro j
        rw [List.getElem?_take, List.getElem?_take]
        split
        · rename_i hj
          show (part fOut (p.outs.set k ⟨v, q.scr⟩) idx)[j]? = (part fOut p.outs idx)[j]?
          unfold part
          rw [List.getElem?_mapIdx, List.getElem?_mapIdx, List.getElem?_set]
          by_cases e : k = j
          · subst e
            rw [if_pos rfl]
            by_cases hkl : k < p.outs.length
            · rw [if_pos hkl, List.getElem?_eq_getElem hkl]
              simp only [Option.map_some]
              rw [if_pos (by omega), if_pos (by omega)]
              rfl
            · rw [if_neg hkl, List.getElem?_eq_none (by omega)]
          · rw [if_neg e]
        · rfl
    unfold sigTx
    rw [ho]
    rfl
  unfold sigHash
  rw [h, hl]

/-- What the run finds is that the marks are alike. -/
theorem sigOk_mark (kc : Nat → Int) (ts : List Tok) (m0 m1 m2 m3 k : UInt8) (b : Nat) (any : Bool) (idx : Nat) (t : TX) (key h : List UInt8) (hm : markL kc h key = [m0, m1, m2, m3]) :
    sigOk kc ts m0 m1 m2 m3 k b any idx t key = (markL kc h key == markL kc (sigHash kc (code ts) k.toNat b any idx t) key) := by
  rw [hm]
  rfl
end Go.Proofs.YtkgihpebghmnbaaGreatDoor
