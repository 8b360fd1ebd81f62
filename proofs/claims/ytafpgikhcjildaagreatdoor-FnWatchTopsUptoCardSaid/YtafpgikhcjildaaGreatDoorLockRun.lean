/- The script of a lock, run: a number pushed, CHECKLOCKTIMEVERIFY, DROP, 1. -/
import Derived.Test.YtafpgikhcjildaaGreatDoorParse
import Derived.Test.YtafpgikhcjildaaGreatDoorStep
import Derived.Test.YtafpgikhcjildaaGreatDoorExecute
namespace Go.Proofs.YtafpgikhcjildaaGreatDoor
open Go.RowKit Go.Proofs

set_option maxRecDepth 100000

section
variable {w w1 w' : World} {g : Nat} {B : Bd} {k : Nat} {cs cs1 : Array Value} {xss xs1 : List (List UInt8)} {e : Ending}

theorem Leaves.ran (h : Leaves w1 g B cs1 xs1 e w') (h28 : cs1[28]? = some (.int .i64 k)) : Ran w1 g B cs1 k xs1 True False e w' := by
  obtain ⟨rfl, cs', hv, hk, hf⟩ := h
  exact ⟨_, rfl, .inl ⟨rfl, trivial⟩, cs', hv, fun i h1 _ => hk i h1, (hk 28 (by omega)).trans h28, hf⟩

theorem exOk {sb si oi off : Nat} {sl : Value} {pos : Int} (hv : Vm w g B cs xss) (he : En cs sb si k oi sl off pos) : ExOk w g :=
  ⟨hv.blk.lt, (hv.blk.cell 32).trans he.c32, (hv.blk.cell 27).trans he.c27⟩

/-- An opcode that is counted, and what it leaves. -/
theorem great_ran {sb si oi off ob v n c : Nat} {A : Option Addr} {sl : Value} {pos : Int} {f : FuncId} {G F : Prop} (hv : Vm w1 g B cs1 xss) (he : En cs1 sb si k oi sl off pos) (h24 : cs1[24]? = some (.bool false)) (hk : k ≤ 200)
    (h97 : 97 ≤ v) (h255 : v ≤ 255) (h171 : v ≠ 171) (hp : Plain v) (hr : RunsTo v f) (hob : w1.cell? ⟨ob, 0, none⟩ = some (.int .u8 v)) (hne : ob ≠ g)
    (h : ∀ w2, Vm w2 g B (cs1.setIfInBounds 28 (.int .i64 ((k : Int) + 1))) xss → Fs g B w1 w2 → (∀ a : Addr, a.block ≠ g → w2.cell? a = w1.cell? a) →
      Calls Tryz.prog f #[.pointer (some ⟨ob, 0, none⟩), .slice A n c, .pointer (some ⟨g, 0, none⟩)] w2 fun e w' => ∃ r, e = .returned r ∧ ((r = .nilIface ∧ G) ∨ (Fault r ∧ F)) ∧ ∃ cs', Vm w' g B cs' xs1 ∧ K23 (cs1.setIfInBounds 28 (.int .i64 ((k : Int) + 1))) cs' ∧ Fs g B w2 w') :
    Calls Tryz.prog 36 #[.pointer (some ⟨g, 0, none⟩), .pointer (some ⟨ob, 0, none⟩), .slice A n c] w1 (Ran w1 g B cs1 (k + 1) xs1 G F) := by
  refine exec_great w1 g ob v k n c A f (fun r w' => ((r = .nilIface ∧ G) ∨ (Fault r ∧ F)) ∧ ∃ cs', Vm w' g B cs' xs1 ∧ K2 cs1 cs' ∧ cs'[28]? = some (.int .i64 ((k + 1 : Nat) : Int)) ∧ Fs g B w1 w') ?_ h97 h255 h171 hp hr (exOk hv he) ((hv.blk.cell 24).trans h24) (hv.blk.frozen 28) ((hv.blk.cell 28).trans he.c28) hk hne hob ?_
  · rintro r w' ⟨⟨rfl, -⟩ | ⟨hf, -⟩, -⟩
    · exact .inl rfl
    · exact .inr hf
  · refine (h _ (hv.set 28 (.int .i64 ((k : Int) + 1)) (by omega)) ((Fs.refl g B w1).set 28 _) (fun a ha => World.cell?_setCell_other _ _ _ _ (by rintro rfl; exact ha rfl))).mono ?_
    rintro e w' ⟨r, rfl, hr, cs', hv', hk', hf'⟩
    refine ⟨r, rfl, hr, cs', hv', fun i h1 h2 => ?_, ?_, ((Fs.refl g B w1).set 28 _).trans hf'⟩
    · rw [hk' i h1, Array.getElem?_setIfInBounds, if_neg (fun e => h2 e.symm)]
    · rw [hk' 28 (by omega)]
      exact get_here he.c28

/-- A small opcode, and what it leaves. -/
theorem small_ran {sb si oi off ob v n c : Nat} {A : Option Addr} {sl : Value} {pos : Int} {f : FuncId} (hv : Vm w1 g B cs1 xss) (he : En cs1 sb si k oi sl off pos)
    (h96 : v ≤ 96) (hn : n ≤ 520) (hr : RunsTo v f) (hob : w1.cell? ⟨ob, 0, none⟩ = some (.int .u8 v)) (hmin : MinOk w1 g ob v n c A)
    (h : Calls Tryz.prog f #[.pointer (some ⟨ob, 0, none⟩), .slice A n c, .pointer (some ⟨g, 0, none⟩)] w1 (Leaves w1 g B cs1 xs1)) :
    Calls Tryz.prog 36 #[.pointer (some ⟨g, 0, none⟩), .pointer (some ⟨ob, 0, none⟩), .slice A n c] w1 (Ran w1 g B cs1 k xs1 True False) := by
  refine exec_small w1 g ob v n c A f (fun r w' => ((r = .nilIface ∧ True) ∨ (Fault r ∧ False)) ∧ ∃ cs', Vm w' g B cs' xs1 ∧ K2 cs1 cs' ∧ cs'[28]? = some (.int .i64 (k : Int)) ∧ Fs g B w1 w') ?_ h96 hr (exOk hv he) hob hn hmin ?_
  · rintro r w' ⟨⟨rfl, -⟩ | ⟨hf, -⟩, -⟩
    · exact .inl rfl
    · exact .inr hf
  · exact h.mono fun e w' hl => hl.ran he.c28

/-- A number's shortest push: small opcodes alone. -/
theorem push_ran {sb si oi off ob n c : Nat} {A : Option Addr} {sl : Value} {pos : Int} (d : List UInt8) (hd : NumOk d) (hv : Vm w1 g B cs1 xss) (he : En cs1 sb si k oi sl off pos) (h24 : cs1[24]? = some (.bool false)) (hx : xss.length ≤ 100000)
    (hob : w1.cell? ⟨ob, 0, none⟩ = some (.int .u8 (pushT d).op)) (hn : n = (pushT d).data.length) (hrd : Rd 0 w1 (.slice A n c) (pushT d).data) :
    Calls Tryz.prog 36 #[.pointer (some ⟨g, 0, none⟩), .pointer (some ⟨ob, 0, none⟩), .slice A n c] w1 (Ran w1 g B cs1 k (xss ++ [d]) True False) := by
  have hp := pushT_pushed d
  obtain ⟨h5, hl⟩ := hd
  unfold pushT at hob hn hrd hp
  split at hob
  · rename_i h0
    rw [if_pos h0] at hn hrd hp
    have : d = [] := List.eq_nil_of_length_eq_zero h0
    subst this
    exact small_ran hv he (by omega) (by simp at hn; omega) runs0 hob (.inl ((hv.blk.cell 24).trans h24)) (false_vm w1 g B cs1 xss _ _ hv hx)
  · rename_i h0
    rw [if_neg h0] at hn hrd hp
    split at hob
    · rename_i h1
      rw [if_pos h1] at hn hrd hp
      obtain ⟨ha, hb, hc⟩ := h1
      have hr := runs_n (80 + (d.getD 0 0).toNat) (by omega) (by omega)
      have hd1 : d = [UInt8.ofNat (80 + (d.getD 0 0).toNat - 80)] := by
        rw [show 80 + (d.getD 0 0).toNat - 80 = (d.getD 0 0).toNat from by omega]
        conv => lhs; rw [one_byte ha]
        simp
      have hE := opcodeN_vm w1 g B ob cs1 xss (.slice A n c) (80 + (d.getD 0 0).toNat) (by omega) (by omega) hob hv hx
      rw [← hd1] at hE
      exact small_ran hv he (by omega) (by simp at hn; omega) hr hob (.inl ((hv.blk.cell 24).trans h24)) hE
    · rename_i h1
      rw [if_neg h1] at hn hrd hp
      split at hob
      · rename_i h2
        exfalso
        obtain ⟨ha, hb⟩ := h2
        rw [one_byte ha] at hl
        simp at hl
        simp at hb
        omega
      · rename_i h2
        rw [if_neg h2] at hn hrd hp
        rw [if_pos (by omega)] at hob hn hrd hp
        simp only at hn hrd hob
        exact small_ran hv he (by omega) (by omega) (runs_push d.length (by omega) (by omega)) hob (.inl ((hv.blk.cell 24).trans h24)) (pushData_vm w1 g B cs1 xss _ _ d hv hrd hx)
end
theorem en_tokC {cs : Array Value} {sb si k oi off : Nat} {sl : Value} {pos : Int} (h : En cs sb si k oi sl off pos) : TokC cs 15 sl off pos :=
  ⟨h.c15, h.c16, h.c17, h.c18, h.c19, h.c20, h.c21⟩

theorem stepIn_tok {w : World} {g : Nat} {B : Bd} {cs : Array Value} {xss : List (List UInt8)} {sb si k oi pb po n c off k' : Nat} {pos : Int} {t : Tok} {bs rest : List UInt8} {xs1 : List (List UInt8)} {G F : Prop}
    (hV : Vm w g B cs xss) (hE : En cs sb si k oi (.slice (some ⟨pb, po, none⟩) n c) off pos) (hsi : si < 2) (hn : n ≤ 100000) (hoi : oi ≤ 1000000) (hx1 : xs1.length ≤ 1000)
    (hrd : Rd 0 w (.slice (some ⟨pb, po, none⟩) n c) bs) (hdrop : bs.drop off = t.enc ++ rest) (ht : TokS t) (hp0 : -1 ≤ pos) (hp : pos ≤ 200000)
    (hex : ∀ dA dc w1 cs1, Rd 0 w1 (.slice dA t.data.length dc) t.data → Vm w1 g B cs1 xss → En cs1 sb si k oi (.slice (some ⟨pb, po, none⟩) n c) (off + t.enc.length) (pos + 1) → Kp cs cs1 → Fs g B w w1 →
      w1.cell? ⟨w.heap.size, 0, none⟩ = some (.int .u8 t.op) → w.heap.size ≠ g →
      Calls Tryz.prog 36 #[.pointer (some ⟨g, 0, none⟩), .pointer (some ⟨w.heap.size, 0, none⟩), .slice dA t.data.length dc] w1 (Ran w1 g B cs1 k' xs1 G F)) :
    ∃ nm dA dc, StepIn w g B cs xss sb si k oi pb po n c off t.enc.length t.op k' pos nm dA t.data.length dc xs1 G F := by
  obtain ⟨nm, dA, dc, hr, hnx⟩ := next_tok2 w g 15 _ n c off (some ⟨pb, po, none⟩) cs pos t bs rest hV.blk (en_tokC hE) hrd (fun ds t' fr hh => by
    have hb := hV.blk
    unfold Blk at hb
    rw [hb] at hh
    injection hh with hh
    injection hh with _ e
    subst e
    simp [Sx]) hdrop ht hn hp0 hp
  refine ⟨nm, dA, dc, ⟨hV, hE, hsi, hn, hoi, hx1, hV.base, hnx, fun w1 hv1 hf1 hc1 => ?_⟩⟩
  exact hex dA dc w1 _ (hf1.rd hV.blk hr) hv1 (hE.tok (off + t.enc.length) (pos + 1) _ _) (tok_kp _ _ _ _ _) hf1 hc1 (Nat.ne_of_gt hV.blk.lt)
end Go.Proofs.YtafpgikhcjildaaGreatDoor
