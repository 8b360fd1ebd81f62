/- Run, of a lock's spend whose machine is known. -/
import Derived.Test.YtfjnhnfghhaehaaGreatDoorLockGo
import Derived.Test.YtfjnhnfghhaehaaGreatDoorRead
namespace Go.Proofs.YtfjnhnfghhaehaaGreatDoor
open Go.RowKit Go.Proofs

set_option maxRecDepth 100000

/-- What the machine is that is built for a lock's spend. -/
def EngPost (w : World) (d : List UInt8) (l : Nat) (e : Ending) (w' : World) : Prop :=
  ∃ g B sb pb po n c rn rc ib cs, e = .returned (.tuple #[.pointer (some ⟨g, 0, none⟩), .nilIface]) ∧ Vm w' g B cs [] ∧ En cs sb 1 0 0 (.slice (some ⟨pb, po, none⟩) n c) 0 (-1) ∧ n ≤ 10000 ∧
    Rd 0 w' (.slice (some ⟨pb, po, none⟩) n c) (code (lockT d)) ∧ cs[0]? = some (.int .u32 8) ∧ cs[2]? = some (.slice (some ⟨rn, 0, none⟩) 1 rc) ∧ cs[4]? = some (.int .u32 l) ∧ cs[5]? = some (.int .i64 0) ∧ cs[33]? = some .nilFunc ∧
    rn < B ∧ rn ≠ g ∧ ib < B ∧ ib ≠ g ∧ w'.cell? ⟨rn, 0, none⟩ = some (.pointer (some ⟨ib, 0, none⟩)) ∧ w'.cell? ⟨ib, 35, none⟩ = some (.int .u32 100) ∧ Below w.heap.size w w' ∧ w.heap.size ≤ g ∧ w.heap.size ≤ B

theorem Fs.toBelow {b g B : Nat} {w w' : World} (h : Fs g B w w') (hw : b ≤ w.heap.size) (hg : b ≤ g) (hB : b ≤ B) : Below b w w' :=
  Fm.toBelow h hw fun k hk hm => by
    rcases hm with rfl | ⟨hm, -⟩ <;> omega
theorem Below.trans' {b : Nat} {w w1 w2 : World} (h : Below b w w1) (hb : b ≤ w1.heap.size) (k : Below b w1 w2) : Below b w w2 :=
  ⟨k.os.trans h.os, k.tape.trans h.tape, k.output.trans h.output, Nat.le_trans h.size k.size, fun j hj => (k.block j hj).trans (h.block j hj)⟩
theorem Below.lower {b b' : Nat} {w w1 : World} (h : Below b w w1) (hb : b' ≤ b) : Below b' w w1 := ⟨h.os, h.tape, h.output, h.size, fun j hj => h.block j (by omega)⟩

/-- What Run comes to. -/
def RunPost (w : World) (d : List UInt8) (l : Nat) (e : Ending) (w' : World) : Prop :=
  ∃ (k : Int) (A : Option Addr) (n c : Nat), e = .returned (.tuple #[.int .i64 k, .slice A n c]) ∧ 0 ≤ k ∧ k ≤ 1001 ∧ (k = 0 ↔ Met (leV d) l) ∧ Below w.heap.size w w'

theorem run_lock (w : World) (d : List UInt8) (l : Nat) (hd : NumOk d) (hl : l < 4294967296) (c0 c1 c2 c3 c4 c5 c6 c7 : Value)
    (hone : ∀ v ∈ [c0, c1, c2, c3, c4, c5, c6, c7], v.oneCell' = true)
    (hE : Calls Tryz.prog 9 #[.agg #[c0, c1, c2, c3, c4, c5, c6, c7]] (w.alloc (.cells #[c0, c1, c2, c3, c4, c5, c6, c7] 32)) (EngPost (w.alloc (.cells #[c0, c1, c2, c3, c4, c5, c6, c7] 32)) d l)) :
    Calls Tryz.prog 7 #[.agg #[c0, c1, c2, c3, c4, c5, c6, c7]] w (RunPost w d l) := by
  have HE := Lib.hid hE
  clear hE
  go_enter Tryz.func7, Tryz.ntmps7
  go_wp2_with fail
  refine HE.out.mono ?_
  rintro e w1 ⟨g, B, sb, pb, po, n, c, rn, rc, ib, cs, rfl, hv, he, hn, hrd, h0, h2, h4, h5, h33, hrn, hrg, hib, hig, hrow, hseq, hb, hg, hB⟩
  have hgo := lock_goes d hd hl hv he hn hrd h0 h2 h4 h5 h33 hrn hrg hib hig hrow hseq
  have HX := Lib.hid (execute_goes w1 g 4 _ hgo hv.blk.lt ((hv.blk.cell 6).trans he.c6) ((hv.blk.cell 33).trans h33))
  have hb0 : Below w.heap.size w w1 := Below.trans' ((Below.refl _ _).alloc (Nat.le_refl _) _) (by simp) (Below.lower hb (by simp))
  have HB := Lib.hid hb0
  have hgw : w.heap.size ≤ g := Nat.le_trans (by simp) hg
  have hBw : w.heap.size ≤ B := Nat.le_trans (by simp) hB
  clear hv he hn hrd h0 h2 h4 h5 h33 hrn hrg hib hig hrow hseq hb hg hB hgo hb0
  go_wp2_with fail
  refine HX.out.mono ?_
  rintro e w2 ⟨r, rfl, -, hfs, hr⟩
  have HB2 := Lib.hid (Below.trans' HB.out HB.out.size (hfs.toBelow HB.out.size hgw hBw))
  clear hfs
  rcases hr with ⟨rfl, hm, cs', hv⟩ | ⟨hf, hm, cs', hv⟩
  · have HM := Lib.hid hm
    have hbl := hv.blk.lt
    obtain ⟨A, cc, items, h23, -, -⟩ := hv.stk
    have c23 := (hv.blk.cell 23).trans h23
    have HG := Lib.hid (getStack_g w2 g _ hbl (fun e w' h => by obtain ⟨⟨A', c', rfl⟩, -⟩ := h; exact ⟨A', 0, c', rfl⟩) (getStack0 w2 g 23 cc A c23))
    clear hm hv h23
    go_wp2_with fail
    refine (kind_nil w2).mono ?_
    rintro e w3 ⟨rfl, rfl⟩
    go_wp2_with fail
    refine HG.out.mono ?_
    rintro e w3 ⟨⟨A', c', rfl⟩, hb3⟩
    have HB3 := Lib.hid (Below.trans' HB2.out HB2.out.size (Below.lower hb3 HB2.out.size))
    clear hb3
    go_wp2_with fail
    refine (copies_nil w3 A' c').mono ?_
    rintro e w4 ⟨rfl, rfl⟩
    go_wp2
    go_ret2
    exact ⟨0, none, 0, 0, rfl, by omega, by omega, ⟨fun _ => HM.out, fun _ => rfl⟩, HB3.out⟩
  · have HM := Lib.hid hm
    have hbl := hv.blk.lt
    have HV := Lib.hid hv
    have HF := Lib.hid hf
    clear hm hv
    obtain ⟨cd, s, rfl, hc0, hc1⟩ := hf
    go_wp2_with fail
    refine (kind_fault w2 _ HF.out).mono ?_
    rintro e w3 ⟨⟨k, rfl, hk1, hk2⟩, hb3⟩
    have HV3 := Lib.hid (HV.out.below hb3)
    have hbl3 := HV3.out.blk.lt
    have HB3 := Lib.hid (Below.trans' HB2.out HB2.out.size (Below.lower hb3 HB2.out.size))
    clear hb3
    go_wp2_with fail
    refine (getStack_g w3 g _ hbl3 (fun e w' h => by obtain ⟨b, A, c, rfl, -⟩ := h; exact ⟨some ⟨b, 0, none⟩, 1, 1, rfl⟩) (getStack1 w3 g B _ d HV3.out)).mono ?_
    rintro e w4 ⟨b, A, c, rfl, hcell, hrd, hb4⟩
    have HB4 := Lib.hid (Below.trans' HB3.out HB3.out.size (Below.lower hb4 HB3.out.size))
    have HC := Lib.hid (copies_one w4 b 0 1 d.length c A d hcell hrd (by have := hd.1; omega))
    clear hb4 hcell hrd
    go_wp2_with fail
    refine HC.out.mono ?_
    rintro e w5 ⟨⟨A', c', rfl⟩, hb5⟩
    have HB5 := Lib.hid (Below.trans' HB4.out HB4.out.size (Below.lower hb5 HB4.out.size))
    clear hb5
    go_wp2
    go_ret2
    exact ⟨k, A', 1, c', rfl, by omega, by omega, ⟨fun h => by omega, fun h => (HM.out h).elim⟩, HB5.out⟩
end Go.Proofs.YtfjnhnfghhaehaaGreatDoor
