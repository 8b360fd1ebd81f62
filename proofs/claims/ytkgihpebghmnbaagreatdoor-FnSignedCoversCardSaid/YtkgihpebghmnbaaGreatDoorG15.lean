/- A row whose walk wants to know that a variable of the library has its type's shape (SHA-256's table: 64 words, whichever). A list of lists of bytes that comes in, as the walks read it. Execute, of a machine whose steps are known. The script of a lock, run: a number pushed, CHECKLOCKTIMEVERIFY, DROP, 1. The script of a lock, from its first opcode to the end. What an engine is; worlds below. -/
import Derived.Test.YtkgihpebghmnbaaGreatDoorSha
import Derived.ChangeSame
import Derived.ChangeVars
import Derived.JoinedOf
import Derived.RowKit
import Derived.RowKitTokens
import Derived.LaidLaws
import Derived.LaidHandle
import Derived.LaidMore
import Derived.OpenShut
import Derived.ProofKit
import Derived.Stop.Joined
import Derived.Handed
import Derived.Deep.Slices
import Derived.Test.YtkgihpebghmnbaaGreatDoorG02
import Derived.Test.YtkgihpebghmnbaaGreatDoorProg
import Derived.Deep.Matrix
import Derived.Test.YtkgihpebghmnbaaGreatDoorG07
import Derived.Test.YtkgihpebghmnbaaGreatDoorExec
import Derived.Deep.LoopGhost
import Derived.Test.YtkgihpebghmnbaaGreatDoorG08
import Derived.Test.YtkgihpebghmnbaaGreatDoorStep
namespace Go.Proofs.YtkgihpebghmnbaaGreatDoor
open Go.RowKit Go.Proofs

set_option maxRecDepth 100000

theorem begin_K : ((begin Tryz.prog (fun _ _ => 0) default).world.heap[3]?).bind Obj.row? = some (Array.replicate 64 (.int .u32 0), 349) := by kernel_rfl
theorem types_K : Tryz.prog.cellTypes Tryz.prog.depth 349 = some (List.replicate 64 25) := by kernel_rfl
theorem index_K : decide (3 < Tryz.prog.globals.size) = true := by kernel_rfl

/-- The table holds 64 words. -/
theorem kt_of {w : World} (h : w.ShapedOpen Tryz.prog) : ∃ kc, KT kc w := by
  obtain ⟨cs, hcs, hsz, hrow⟩ := h.1 _ _ _ (of_decide_eq_true index_K) begin_K
  have hsz : cs.size = 64 := by simpa using hsz
  obtain ⟨ts, hts, -, hc⟩ := hrow (by kernel_rfl)
  rw [types_K] at hts
  injection hts with hts
  have each : ∀ i, i < 64 → ∃ k : Int, cs[i]? = some (.int .u32 k) := fun i hi => by
    obtain ⟨u, hu, hok⟩ := hc i (cs[i]'(by omega)) (Array.getElem?_eq_getElem _)
    have hl : ts.length = 64 := by rw [← hts]; simp
    rw [hl, ← hts, List.getElem?_replicate, if_pos (Nat.mod_lt _ (by omega))] at hu
    injection hu with hu
    subst hu
    rw [Array.getElem?_eq_getElem (show i < cs.size by omega)]
    generalize cs[i]'(by omega) = v at hok ⊢
    simp only [Cell.ok, Tryz.underlying25] at hok
    cases v <;> simp at hok
    obtain ⟨rfl, -⟩ := hok
    exact ⟨_, rfl⟩
  obtain ⟨f, hf⟩ := Go.Deep.choose_lt each
  exact ⟨f, fun i hi => ((show Blk w 3 349 cs from hcs).cell i).trans (hf i hi)⟩

/-- What is handed to a row's contract besides the condition on the listed variables: that the world has the program's shape. -/
theorem handed_shaped {H : Type} {enc : TypeId × Value → H} {a : Assume} {C : Checked} {os : Os} {f : FuncId} {fn : Func} {s : ChangeSpec} {conds : List PathCond} {apart fresh handsOn again : Bool} {X : World → Array Value → Prop}
    (_hX : ∀ (w w' : World) (args : Array Value), w.heap = w'.heap → X w args → X w' args)
    (own : ownKnob C.prog.godebug = none) (started : os.Started) (noInit : C.prog.inits.idxOf? f = none) (hfn : C.prog.funcs[f]? = some fn)
    (witness : ∃ (w : World) (tape : Tape) (i : Input), w.os = os ∧ (w.forCall tape i).Shaped C.prog ∧ i.vars = [] ∧ Input.okWide C.prog (w.forCall tape i) .any w.heap.size f i ∧
      ((s.pre enc C.prog fn conds apart (w.forCall tape i).memory i.args ∧ X (w.forCall tape i).memory i.args) ∧ sizedMet enc C.prog fn (OpenSpec.ofChange s) apart (w.forCall tape i).memory i.args) ∧ a.holds C.prog (lone (Frame.enter C.prog f i.args .normal) [] (w.forCall tape i)))
    (contract : ∀ (W : World) (base : Nat) (args : Array Value) (ds gs : List (DataW H)) (before : List MemPlace), W.ShapedOpen C.prog →
      (∀ (j : Nat) t v, fn.params[j]? = some t → args[j]? = some v → Value.okWide C.prog W .any base t v) →
      DataW.Whole enc C.prog fn.params.toList s.vars apart W args.toList ds gs before →
      Calls C.prog f args W fun e W' => ∃ v, e = .returned v ∧ s.post enc C.prog fn apart fresh handsOn again W args v W') :
    ReturnsInHanded a C os f .any (fun w args => (s.pre enc C.prog fn conds apart w args ∧ X w args) ∧ sizedMet enc C.prog fn (OpenSpec.ofChange s) apart w args) (s.post enc C.prog fn apart fresh handsOn again) :=
  returnsInHanded_of_calls own started noInit witness fun w tape i _ shape _ good given _ => by
    obtain ⟨_, _, _, g, hg, _, _, _, _, values⟩ := good
    cases Option.some.inj (hg.symm.trans hfn)
    obtain ⟨⟨⟨ds, gs, before, whole, _⟩, _⟩, _⟩ := given
    refine (contract (w.forCall tape i) w.heap.size i.args ds gs before shape values (DataW.Whole.of_heap (w' := w.forCall tape i) (by rfl) whole)).mono fun e W' ended => ?_
    obtain ⟨v, rfl, post⟩ := ended
    exact ChangeSpec.post_blind post

theorem trodAll_five {H : Type} {enc : TypeId × Value → H} {P : Program} {w : World} {base : Nat} {spare : Nat → Bool} {held : Bool} {t0 t1 t2 t3 t4 : TypeId} {args : Array Value} {ds : List (DataW H)} {ps : List MemPlace} (h : DataW.TrodAll enc P w base spare held [t0, t1, t2, t3, t4] args.toList ds ps) :
    ∃ v0 v1 v2 v3 v4 d0 d1 d2 d3 d4 p0 p1 p2 p3 p4, args = #[v0, v1, v2, v3, v4] ∧ ds = [d0, d1, d2, d3, d4] ∧ ps = p0 ++ (p1 ++ (p2 ++ (p3 ++ p4))) ∧ DataW.Trod enc P w base spare held t0 v0 d0 p0 ∧ DataW.Trod enc P w base spare held t1 v1 d1 p1 ∧
      DataW.Trod enc P w base spare held t2 v2 d2 p2 ∧ DataW.Trod enc P w base spare held t3 v3 d3 p3 ∧ DataW.Trod enc P w base spare held t4 v4 d4 p4 := by
  obtain ⟨v0, r0, d0, s0, p0, q0, e, rfl, rfl, h0, k0⟩ := Go.ChangeShapes.trodAll_cons h
  obtain ⟨v1, r1, d1, s1, p1, q1, rfl, rfl, rfl, h1, k1⟩ := Go.ChangeShapes.trodAll_cons k0
  obtain ⟨v2, r2, d2, s2, p2, q2, rfl, rfl, rfl, h2, k2⟩ := Go.ChangeShapes.trodAll_cons k1
  obtain ⟨v3, r3, d3, s3, p3, q3, rfl, rfl, rfl, h3, k3⟩ := Go.ChangeShapes.trodAll_cons k2
  obtain ⟨v4, r4, d4, s4, p4, q4, rfl, rfl, rfl, h4, k4⟩ := Go.ChangeShapes.trodAll_cons k3
  obtain ⟨rfl, rfl, rfl⟩ := Go.ChangeShapes.trodAll_nil k4
  exact ⟨v0, v1, v2, v3, v4, d0, d1, d2, d3, d4, p0, p1, p2, p3, p4, by cases args; simp_all, rfl, by simp, h0, h1, h2, h3, h4⟩
end Go.Proofs.YtkgihpebghmnbaaGreatDoor

namespace Go.Proofs.YtkgihpebghmnbaaGreatDoor
open Go.RowKit Go.Proofs Go.Deep Go.ChangeShapes Go.WideShapes

set_option maxRecDepth 100000

theorem cell_form {w : World} {a : Addr} {u : Value} (h : w.cell? a = some u) : ∃ ds t fr, w.heap[a.block]? = some (.cells ds t fr) ∧ a.spot = none ∧ ds[a.off]? = some u := by
  unfold World.cell? at h
  split at h
  · rename_i ds t fr hh
    split at h
    · cases h
    · rename_i hs
      exact ⟨ds, t, fr, hh, by simpa using hs, h⟩
  · cases h

theorem addr_spot {a : Addr} (h : a.spot = none) : a = ⟨a.block, a.off, none⟩ := by cases a; simp at h; subst h; rfl
theorem add_spot {a : Addr} (r : Nat) (h : (a.add 0).spot = none) : a.add r = ⟨a.block, a.off + r, none⟩ := by
  have h0 : a.add 0 = a := by unfold Addr.add; simp
  rw [h0] at h
  rw [addr_spot h]
  exact addr_add a.block a.off r

/-- One row of bytes. -/
theorem row_read {W : World} {A : Option Addr} {L C : Nat} {zs : List Int} (hl : L ≤ C) (hz : zs.length = C) (hw : ∀ n ∈ zs, (Lit.int .u8 n).wf = true) (h : ∀ a', A = some a' → ∀ c, c < C → W.cell? (a'.add c) = some (.int .u8 (zs.getD c 0))) (hn : A = none → C = 0) :
    ∃ xs : List UInt8, xs.length = L ∧ Rd W.heap.size W (.slice A L C) xs := by
  obtain ⟨xs, hxs⟩ : ∃ xs : List UInt8, xs = (zs.take L).map fun z => UInt8.ofNat z.toNat := ⟨_, rfl⟩
  have hlen : xs.length = L := by rw [hxs]; simp; omega
  refine ⟨xs, hlen, A, C, by rw [hlen], by omega, fun hp => ?_⟩
  cases A with
  | none => have := hn rfl; omega
  | some a =>
    have h0 := h a rfl 0 (by omega)
    obtain ⟨ds, t, fr, hh, hs, -⟩ := cell_form h0
    have e0 : a.add 0 = a := by unfold Addr.add; simp
    rw [e0] at hh
    refine ⟨a.block, a.off, ds, t, fr, by rw [← addr_spot (by rw [← e0]; exact hs)], hh, .inl (Array.getElem?_eq_some_iff.1 hh).1, fun j u hj => ?_⟩
    have hjl : j < L := by rw [← hlen]; exact (List.getElem?_eq_some_iff.1 hj).1
    have hc := h a rfl j (by omega)
    rw [add_spot j hs] at hc
    obtain ⟨ds', t', fr', hh', -, hd⟩ := cell_form hc
    rw [hh] at hh'
    injection hh' with hh'
    injection hh' with e1 _ _
    subst e1
    simp only at hd
    rw [hd]
    have hzj : zs[j]? = some (zs.getD j 0) := by rw [List.getD_eq_getElem?_getD, List.getElem?_eq_getElem (by omega)]; rfl
    have hu : u = UInt8.ofNat (zs.getD j 0).toNat := by
      rw [hxs, List.getElem?_map, List.getElem?_take, if_pos hjl, hzj] at hj
      simpa using hj.symm
    have hwf := hw (zs.getD j 0) (List.mem_of_getElem? hzj)
    have e1 : IntKind.u8.min = 0 := rfl
    have e2 : IntKind.u8.max = 255 := rfl
    simp [Lit.wf, e1, e2] at hwf
    rw [hu]
    congr 2
    simp
    omega

theorem rows_read {H : Type} {enc : TypeId × Value → H} {W : World} {fuel : Nat} {cs : List Value} {x : DataW H × List MemPlace} (h : DataW.trod enc Tryz.prog W 0 (fun _ => true) true fuel 41 cs = some x) :
    ∃ n c A vs xss, cs = [.slice A n c] ∧ n ≤ c ∧ Cells W A n vs ∧ RdL W.heap.size W vs xss ∧
      ((x.1 = .nil ∧ xss = []) ∨ ∃ es rest, x.1 = .slice es rest ∧ es.length = xss.length ∧ ∀ (i : Nat) (e : DataW H) (xs : List UInt8), es[i]? = some e → xss[i]? = some xs → (e = .nil ∧ xs = []) ∨ ∃ ls rs, e = .slice ls rs ∧ ls.length = xs.length) := by
  rcases open_int_rows Tryz.underlying41 Tryz.underlying30 Tryz.underlying5 (by kernel_rfl) (by kernel_rfl) h with ⟨rfl, rfl⟩ | ⟨a, len, cap, A, L, C, Z, rfl, hb, hl, hm, rfl, hr⟩
  · exact ⟨0, 0, none, [], [], rfl, Nat.le_refl _, ⟨rfl, fun h => absurd h (by omega)⟩, RdL.nil, .inl ⟨rfl, rfl⟩⟩
  · have hx : ∀ r, r < cap → ∃ xs : List UInt8, xs.length = L r ∧ Rd W.heap.size W (.slice (A r) (L r) (C r)) xs := fun r hr0 => by
      obtain ⟨r1, r2, r3, r4, r5, r6, r7⟩ := hr r hr0
      exact row_read r2 r4 r5 (fun a' ha => (r7 a' ha).2) r6
    obtain ⟨X, hX⟩ : ∃ X : Nat → List UInt8, ∀ r, r < cap → (X r).length = L r ∧ Rd W.heap.size W (.slice (A r) (L r) (C r)) (X r) := choose_lt hx
    refine ⟨len, cap, some a, (List.range len).map fun r => .slice (A r) (L r) (C r), (List.range len).map X, rfl, hl, ⟨by simp, fun hp => ?_⟩, ⟨by simp, fun i v xs hv hxs => ?_⟩, .inr ⟨_, _, rfl, by simp, fun i e xs he hxs => ?_⟩⟩
    · have h0 := (hr 0 (by omega)).1
      obtain ⟨-, -, -, -, hs, -⟩ := cell_form h0
      have e0 : a.add 0 = a := by unfold Addr.add; simp
      refine ⟨a.block, a.off, by rw [← addr_spot (by rw [← e0]; exact hs)], fun j u hj => ?_⟩
      rw [List.getElem?_map] at hj
      by_cases hjl : j < len
      · rw [List.getElem?_range hjl] at hj
        simp at hj
        subst hj
        have := (hr j (by omega)).1
        rwa [add_spot j hs] at this
      · rw [List.getElem?_eq_none (by simp; omega)] at hj
        cases hj
    · rw [List.getElem?_map] at hv hxs
      by_cases hil : i < len
      · rw [List.getElem?_range hil] at hv hxs
        simp at hv hxs
        subst hv; subst hxs
        exact (hX i (by omega)).2
      · rw [List.getElem?_eq_none (by simp; omega)] at hv
        cases hv
    · rw [List.getElem?_map] at he hxs
      by_cases hil : i < len
      · rw [List.getElem?_range hil] at he hxs
        simp at he hxs
        subst he; subst hxs
        have hXi := (hX i (by omega)).1
        unfold intRow
        cases hA : A i with
        | none =>
          have hc := (hr i (by omega)).2.2.2.2.2.1 hA
          have hlc := (hr i (by omega)).2.1
          exact .inl ⟨rfl, List.eq_nil_of_length_eq_zero (by omega)⟩
        | some a' =>
          have h4 := (hr i (by omega)).2.2.2.1
          have hlc := (hr i (by omega)).2.1
          exact .inr ⟨_, _, rfl, by simp [lits, hXi]; omega⟩
      · rw [List.getElem?_eq_none (by simp; omega)] at he
        cases he
end Go.Proofs.YtkgihpebghmnbaaGreatDoor

namespace Go.Proofs.YtkgihpebghmnbaaGreatDoor
open Go.RowKit Go.Proofs

set_option maxRecDepth 100000

/-- The last check's answer. -/
def Ends (g : Nat) (R : Value → World → Prop) (w : World) : Prop :=
  Calls Tryz.prog 36 #[.pointer (some ⟨g, 0, none⟩), .bool true] w fun e w' => ∃ r, e = .returned r ∧ Ret r ∧ R r w'
/-- n steps at most bring the machine to its end. -/
def Goes (g : Nat) (R : Value → World → Prop) : Nat → World → Prop
  | 0, _ => False
  | n + 1, w => Calls Tryz.prog 35 #[.pointer (some ⟨g, 0, none⟩)] w fun e w' =>
      (∃ r, e = .returned (.tuple #[.bool true, r]) ∧ Fault r ∧ R r w') ∨
      (e = .returned (.tuple #[.bool true, .nilIface]) ∧ w'.cell? ⟨g, 33, none⟩ = some .nilFunc ∧ g < w'.heap.size ∧ Ends g R w') ∨
      (e = .returned (.tuple #[.bool false, .nilIface]) ∧ w'.cell? ⟨g, 33, none⟩ = some .nilFunc ∧ g < w'.heap.size ∧ Goes g R n w')

theorem execute_goes (w : World) (g n : Nat) (R : Value → World → Prop) (h : Goes g R n w) (_hg : g < w.heap.size) (h6 : w.cell? ⟨g, 6, none⟩ = some (.int .u16 0)) (h33 : w.cell? ⟨g, 33, none⟩ = some .nilFunc) :
    Calls Tryz.prog 23 #[.pointer (some ⟨g, 0, none⟩)] w fun e w' => ∃ r, e = .returned r ∧ Ret r ∧ R r w' := by
  have HG := Lib.hid h
  have hnf : ∀ w : World, (binOp BinOp.neq 109 .nilFunc .nilFunc).run Tryz.prog w = .ok (.bool false) w := fun _ => by kernel_rfl
  clear h
  go_enter Tryz.func23, Tryz.ntmps23
  go_wp2_with fail
  clear h6 h33
  go_loopg [5] (n + 1) (fun k s5 wx => (s5 = .bool false ∧ ∃ m, k = m + 1 ∧ Goes g R m wx) ∨ (s5 = .bool true ∧ k = 0 ∧ Ends g R wx))
  case atStart => exact .inl ⟨rfl, n, rfl, HG.out⟩
  case round =>
    rcases hrel with ⟨rfl, m, rfl, hgo⟩ | ⟨rfl, rfl, hfin⟩
    · cases m with
      | zero => exact hgo.elim
      | succ m =>
      have HG2 := Lib.hid hgo
      clear hgo
      go_wp2_with fail
      refine Calls.mono (show Calls _ _ _ _ _ from HG2.out) ?_
      rintro e w1 (⟨r, rfl, ⟨cd, s, rfl, h0, h1⟩, hr⟩ | ⟨rfl, h33, hlt, hc⟩ | ⟨rfl, h33, hlt, hc⟩)
      · have hr := Lib.hid hr
        go_wp2
        go_ret
        exact ⟨_, rfl, .inr ⟨cd, s, rfl, h0, h1⟩, hr.out⟩
      · have hc := Lib.hid hc
        go_wp2
        go_roundg 0
        case measure => omega
        case rel => exact .inr ⟨rfl, rfl, hc.out⟩
      · have hc := Lib.hid hc
        go_wp2
        go_roundg (m + 1)
        case measure => omega
        case rel => exact .inl ⟨rfl, m, rfl, hc.out⟩
    · have HE := Lib.hid hfin
      clear hfin
      go_wp2_with fail
      refine Calls.mono (show Calls _ _ _ _ _ from HE.out) ?_
      rintro e w1 ⟨r, rfl, hret, hr⟩
      have hr := Lib.hid hr
      rcases hret with rfl | ⟨cd, s, rfl, h0, h1⟩
      · go_wp2
        go_ret
        exact ⟨_, rfl, .inl rfl, hr.out⟩
      · go_wp2
        go_ret
        exact ⟨_, rfl, .inr ⟨cd, s, rfl, h0, h1⟩, hr.out⟩

/-- kindOf. -/
theorem kind_nil (w : World) :
    Calls Tryz.prog 20 #[.nilIface] w fun e w' => e = .returned (.int .i64 0) ∧ w = w' := by
  go_enter Tryz.func20, Tryz.ntmps20
  go_wp2
  go_ret
  exact ⟨rfl, rfl⟩
theorem kind_fault (w : World) (r : Value) (h : Fault r) :
    Calls Tryz.prog 20 #[r] w fun e w' => (∃ k : Int, e = .returned (.int .i64 k) ∧ 1 ≤ k ∧ k ≤ 1001) ∧ Below w.heap.size w w' := by
  obtain ⟨c, s, rfl, h0, h1⟩ := h
  have hta : ∀ w : World, (Instr.typeAssert (.iface 93 (.agg #[.int .i64 c, .string s])) 57 93 true).run Tryz.prog w = .ok (.tuple #[.agg #[.int .i64 c, .string s], .bool true]) w := fun _ => by kernel_rfl
  go_enter Tryz.func20, Tryz.ntmps20
  go_wp2
  go_ret
  exact ⟨⟨_, rfl, by omega, by omega⟩, (Below.refl _ _).alloc (Nat.le_refl _) _⟩
end Go.Proofs.YtkgihpebghmnbaaGreatDoor

namespace Go.Proofs.YtkgihpebghmnbaaGreatDoor
open Go.RowKit Go.Proofs

set_option maxRecDepth 100000

section
variable {w w1 w' : World} {g : Nat} {B : Bd} {k : Nat} {cs cs1 : Array Value} {xss xs1 : List (List UInt8)} {e : Ending}

theorem Leaves.ran (h : Leaves w1 g B cs1 xs1 e w') (h28 : cs1[28]? = some (.int .i64 k)) : Ran w1 g B cs1 k xs1 True False e w' := by
  obtain ⟨rfl, cs', hv, hk, hf⟩ := h
  exact ⟨_, rfl, .inl ⟨rfl, trivial⟩, cs', hv, fun i h1 _ => hk i h1, (hk 28 (by omega)).trans h28, hf⟩

theorem exOk {sb si oi off : Nat} {sl : Value} {pos : Int} (hv : Vm w g B cs xss) (he : En cs sb si k oi sl off pos) : ExOk w g :=
  ⟨hv.blk.lt, (hv.blk.cell 32).trans he.c32, (hv.blk.cell 27).trans he.c27⟩

/-- An opcode that is counted, and what it leaves. -/
theorem great_ran {sb si oi off ob v n c : Nat} {A : Option Addr} {sl : Value} {pos : Int} {f : FuncId} {G F : Prop} (hv : Vm w1 g B cs1 xss) (he : En cs1 sb si k oi sl off pos) (h24 : cs1[24]? = some (.bool false)) (hk : k ≤ 200)
    (h97 : 97 ≤ v) (h255 : v ≤ 255) (h171 : v ≠ 171) (hp : Plain v) (hr : RunsTo v f) (hob : w1.cell? ⟨ob, 0, none⟩ = some (.int .u8 v)) (hne : ob ≠ g)
    (h : ∀ w2, Vm w2 g B (cs1.setIfInBounds 28 (.int .i64 ((k : Int) + 1))) xss → Fs g B w1 w2 → (∀ a : Addr, a.block ≠ g → w2.cell? a = w1.cell? a) →
      Calls Tryz.prog f #[.pointer (some ⟨ob, 0, none⟩), .slice A n c, .pointer (some ⟨g, 0, none⟩)] w2 fun e w' => ∃ r, e = .returned r ∧ ((r = .nilIface ∧ G) ∨ (Fault r ∧ F)) ∧ ∃ cs', Vm w' g B cs' xs1 ∧ K23 (cs1.setIfInBounds 28 (.int .i64 ((k : Int) + 1))) cs' ∧ Fs g B w2 w') :
    Calls Tryz.prog 56 #[.pointer (some ⟨g, 0, none⟩), .pointer (some ⟨ob, 0, none⟩), .slice A n c] w1 (Ran w1 g B cs1 (k + 1) xs1 G F) := by
  refine exec_great w1 g ob v k n c A f (fun r w' => ((r = .nilIface ∧ G) ∨ (Fault r ∧ F)) ∧ ∃ cs', Vm w' g B cs' xs1 ∧ K2 cs1 cs' ∧ cs'[28]? = some (.int .i64 ((k + 1 : Nat) : Int)) ∧ Fs g B w1 w') ?_ h97 h255 h171 hp hr (exOk hv he) ((hv.blk.cell 24).trans h24) (hv.blk.frozen 28) ((hv.blk.cell 28).trans he.c28) hk hne hob ?_
  · rintro r w' ⟨⟨rfl, -⟩ | ⟨hf, -⟩, -⟩
    · exact .inl rfl
    · exact .inr hf
  · refine (h _ (hv.set 28 (.int .i64 ((k : Int) + 1)) (by omega)) ((Fs.refl g B w1).set 28 _) (fun a ha => World.cell?_setCell_other _ _ _ _ (by rintro rfl; exact ha rfl))).mono ?_
    rintro e w' ⟨r, rfl, hr, cs', hv', hk', hf'⟩
    refine ⟨r, rfl, hr, cs', hv', fun i h1 h2 => ?_, ?_, ((Fs.refl g B w1).set 28 _).trans hf'⟩
    · rw [hk' i h1, Array.getElem?_setIfInBounds, if_neg (fun e => h2 e.symm)]
    · rw [hk' 28 (by omega)]
      exact get_here he.c28

/-- A small opcode, and what it leaves. -/
theorem small_ran {sb si oi off ob v n c : Nat} {A : Option Addr} {sl : Value} {pos : Int} {f : FuncId} (hv : Vm w1 g B cs1 xss) (he : En cs1 sb si k oi sl off pos)
    (h96 : v ≤ 96) (hn : n ≤ 520) (hr : RunsTo v f) (hob : w1.cell? ⟨ob, 0, none⟩ = some (.int .u8 v)) (hmin : MinOk w1 g ob v n c A)
    (h : Calls Tryz.prog f #[.pointer (some ⟨ob, 0, none⟩), .slice A n c, .pointer (some ⟨g, 0, none⟩)] w1 (Leaves w1 g B cs1 xs1)) :
    Calls Tryz.prog 56 #[.pointer (some ⟨g, 0, none⟩), .pointer (some ⟨ob, 0, none⟩), .slice A n c] w1 (Ran w1 g B cs1 k xs1 True False) := by
  refine exec_small w1 g ob v n c A f (fun r w' => ((r = .nilIface ∧ True) ∨ (Fault r ∧ False)) ∧ ∃ cs', Vm w' g B cs' xs1 ∧ K2 cs1 cs' ∧ cs'[28]? = some (.int .i64 (k : Int)) ∧ Fs g B w1 w') ?_ h96 hr (exOk hv he) hob hn hmin ?_
  · rintro r w' ⟨⟨rfl, -⟩ | ⟨hf, -⟩, -⟩
    · exact .inl rfl
    · exact .inr hf
  · exact h.mono fun e w' hl => hl.ran he.c28

/-- A number's shortest push: small opcodes alone. -/
theorem push_ran {sb si oi off ob n c : Nat} {A : Option Addr} {sl : Value} {pos : Int} (d : List UInt8) (hd : NumOk d) (hv : Vm w1 g B cs1 xss) (he : En cs1 sb si k oi sl off pos) (h24 : cs1[24]? = some (.bool false)) (hx : xss.length ≤ 100000)
    (hob : w1.cell? ⟨ob, 0, none⟩ = some (.int .u8 (pushT d).op)) (hn : n = (pushT d).data.length) (hrd : Rd 0 w1 (.slice A n c) (pushT d).data) :
    Calls Tryz.prog 56 #[.pointer (some ⟨g, 0, none⟩), .pointer (some ⟨ob, 0, none⟩), .slice A n c] w1 (Ran w1 g B cs1 k (xss ++ [d]) True False) := by
  have hp := pushT_pushed d
  obtain ⟨h5, hl⟩ := hd
  unfold pushT at hob hn hrd hp
  split at hob
  · rename_i h0
    rw [if_pos h0] at hn hrd hp
    have : d = [] := List.eq_nil_of_length_eq_zero h0
    subst this
    exact small_ran hv he (by omega) (by simp at hn; omega) runs0 hob (.inl ((hv.blk.cell 24).trans h24)) (false_vm w1 g B cs1 xss _ _ hv hx)
  · rename_i h0
    rw [if_neg h0] at hn hrd hp
    split at hob
    · rename_i h1
      rw [if_pos h1] at hn hrd hp
      obtain ⟨ha, hb, hc⟩ := h1
      have hr := runs_n (80 + (d.getD 0 0).toNat) (by omega) (by omega)
      have hd1 : d = [UInt8.ofNat (80 + (d.getD 0 0).toNat - 80)] := by
        rw [show 80 + (d.getD 0 0).toNat - 80 = (d.getD 0 0).toNat from by omega]
        conv => lhs; rw [one_byte ha]
        simp
      have hE := opcodeN_vm w1 g B ob cs1 xss (.slice A n c) (80 + (d.getD 0 0).toNat) (by omega) (by omega) hob hv hx
      rw [← hd1] at hE
      exact small_ran hv he (by omega) (by simp at hn; omega) hr hob (.inl ((hv.blk.cell 24).trans h24)) hE
    · rename_i h1
      rw [if_neg h1] at hn hrd hp
      split at hob
      · rename_i h2
        exfalso
        obtain ⟨ha, hb⟩ := h2
        rw [one_byte ha] at hl
        simp at hl
        simp at hb
        omega
      · rename_i h2
        rw [if_neg h2] at hn hrd hp
        rw [if_pos (by omega)] at hob hn hrd hp
        simp only at hn hrd hob
        exact small_ran hv he (by omega) (by omega) (runs_push d.length (by omega) (by omega)) hob (.inl ((hv.blk.cell 24).trans h24)) (pushData_vm w1 g B cs1 xss _ _ d hv hrd hx)
end
theorem en_tokC {cs : Array Value} {sb si k oi off : Nat} {sl : Value} {pos : Int} (h : En cs sb si k oi sl off pos) : TokC cs 15 sl off pos :=
  ⟨h.c15, h.c16, h.c17, h.c18, h.c19, h.c20, h.c21⟩

theorem stepIn_tok {w : World} {g : Nat} {B : Bd} {cs : Array Value} {xss : List (List UInt8)} {sb si k oi pb po n c off k' : Nat} {pos : Int} {t : Tok} {bs rest : List UInt8} {xs1 : List (List UInt8)} {G F : Prop}
    (hV : Vm w g B cs xss) (hE : En cs sb si k oi (.slice (some ⟨pb, po, none⟩) n c) off pos) (hsi : si < 2) (hn : n ≤ 100000) (hoi : oi ≤ 1000000) (hx1 : xs1.length ≤ 1000)
    (hrd : Rd 0 w (.slice (some ⟨pb, po, none⟩) n c) bs) (hdrop : bs.drop off = t.enc ++ rest) (ht : TokS t) (hp0 : -1 ≤ pos) (hp : pos ≤ 200000)
    (hex : ∀ dA dc w1 cs1, Rd 0 w1 (.slice dA t.data.length dc) t.data → Vm w1 g B cs1 xss → En cs1 sb si k oi (.slice (some ⟨pb, po, none⟩) n c) (off + t.enc.length) (pos + 1) → Kp cs cs1 → Fs g B w w1 →
      w1.cell? ⟨w.heap.size, 0, none⟩ = some (.int .u8 t.op) → w.heap.size ≠ g →
      Calls Tryz.prog 56 #[.pointer (some ⟨g, 0, none⟩), .pointer (some ⟨w.heap.size, 0, none⟩), .slice dA t.data.length dc] w1 (Ran w1 g B cs1 k' xs1 G F)) :
    ∃ nm dA dc, StepIn w g B cs xss sb si k oi pb po n c off t.enc.length t.op k' pos nm dA t.data.length dc xs1 G F := by
  obtain ⟨nm, dA, dc, hr, hnx⟩ := next_tok2 w g 15 _ n c off (some ⟨pb, po, none⟩) cs pos t bs rest hV.blk (en_tokC hE) hrd (fun ds t' fr hh => by
    have hb := hV.blk
    unfold Blk at hb
    rw [hb] at hh
    injection hh with hh
    injection hh with _ e
    subst e
    simp [Sx]) hdrop ht hn hp0 hp
  refine ⟨nm, dA, dc, ⟨hV, hE, hsi, hn, hoi, hx1, hV.base, hnx, fun w1 hv1 hf1 hc1 => ?_⟩⟩
  exact hex dA dc w1 _ (hf1.rd hV.blk hr) hv1 (hE.tok (off + t.enc.length) (pos + 1) _ _) (tok_kp _ _ _ _ _) hf1 hc1 (Nat.ne_of_gt hV.blk.lt)
end Go.Proofs.YtkgihpebghmnbaaGreatDoor

namespace Go.Proofs.YtkgihpebghmnbaaGreatDoor
open Go.RowKit Go.Proofs

set_option maxRecDepth 100000

section
variable {w w' : World} {g : Nat} {B : Bd} {sb si k oi pb po n c off len v k' m : Nat} {cs : Array Value} {xss xs1 : List (List UInt8)} {pos : Int} {nm : ByteArray} {dA : Option Addr} {dn dc : Nat} {G F : Prop} {R : Value → World → Prop}

theorem goes_mid (h : StepIn w g B cs xss sb si k oi pb po n c off len v k' pos nm dA dn dc xs1 G F) (hoff : off + len < n) (h33 : cs[33]? = some .nilFunc)
    (hgood : ∀ w' cs', G → Vm w' g B cs' xs1 → En cs' sb si k' (oi + 1) (.slice (some ⟨pb, po, none⟩) n c) (off + len) (pos + 1) → Kp cs cs' → Fs g B w w' → Goes g R m w')
    (hbad : ∀ r w' cs', Fault r → F → Vm w' g B cs' xs1 → Fs g B w w' → R r w') : Goes g R (m + 1) w := by
  refine (step_any h (.inl hoff)).mono ?_
  rintro e w' (⟨-, ⟨rfl, hG, cs', hv', he', hk', hf'⟩ | ⟨r, rfl, hFt, hF, cs', hv', hk', hf'⟩⟩ | ⟨hc, -⟩)
  · exact .inr (.inr ⟨rfl, (hv'.blk.cell 33).trans ((hk' 33 (by omega)).trans h33), hv'.blk.lt, hgood _ _ hG hv' he' hk' hf'⟩)
  · exact .inl ⟨r, rfl, hFt, hbad _ _ _ hFt hF hv' hf'⟩
  · omega

theorem goes_end (h : StepIn w g B cs xss sb 1 k oi pb po n c off len v k' pos nm dA dn dc xs1 G F) (hoff : off + len = n) (h33 : cs[33]? = some .nilFunc)
    (hgood : ∀ w' cs', G → Vm w' g B cs' xs1 → cs'[12]? = some (.int .i64 2) → Kp cs cs' → Fs g B w w' → Ends g R w')
    (hbad : ∀ r w' cs', Fault r → F → Vm w' g B cs' xs1 → Fs g B w w' → R r w') : Goes g R (m + 1) w := by
  refine (step_any h (.inr ⟨hoff, rfl⟩)).mono ?_
  rintro e w' (⟨hc, -⟩ | ⟨-, ⟨rfl, hG, cs', hv', h12, -, hk', hf'⟩ | ⟨r, rfl, hFt, hF, cs', hv', hk', hf'⟩⟩)
  · omega
  · exact .inr (.inl ⟨rfl, (hv'.blk.cell 33).trans ((hk' 33 (by omega)).trans h33), hv'.blk.lt, hgood _ _ hG hv' h12 hk' hf'⟩)
  · exact .inl ⟨r, rfl, hFt, hbad _ _ _ hFt hF hv' hf'⟩

theorem Fs.cell {a : Addr} {u : Value} (h : Fs g B w w') (hc : w.cell? a = some u) (hB : a.block < B.n) (hg : a.block ≠ g) : w'.cell? a = some u := by
  rw [World.cell?_of_block (w := w) (h.block a.block (World.block_lt_of_cell? w _ hc) ?_)]
  · exact hc
  · rintro (e | ⟨e, -⟩)
    · exact hg e
    · omega
end

theorem tokS_push (d : List UInt8) (hd : NumOk d) : TokS (pushT d) := by
  obtain ⟨h5, hl⟩ := hd
  unfold pushT
  split
  · exact .inl ⟨rfl, .inl rfl, by simp, _, op0⟩
  · split
    · rename_i h1
      obtain ⟨ha, hb, hc⟩ := h1
      exact .inl ⟨rfl, .inr (show 78 < 80 + (d.getD 0 0).toNat by omega), (show 80 + (d.getD 0 0).toNat ≤ 255 by omega), op_n (80 + (d.getD 0 0).toNat) (by omega) (by omega)⟩
    · split
      · rename_i h2
        exfalso
        obtain ⟨ha, hb⟩ := h2
        rw [one_byte ha] at hl
        simp at hl
        simp at hb
        omega
      · rw [if_pos (by omega)]
        exact .inr (.inl ⟨by simp only; omega, by simp only; omega, rfl⟩)

theorem drop_at (p r : List UInt8) (n k : Nat) (h : n = p.length + k) : (p ++ r).drop n = r.drop k := by
  subst h
  induction p with
  | nil => simp
  | cons a p ih => rw [List.length_cons, Nat.add_right_comm, List.cons_append, List.drop_succ_cons]; exact ih
theorem len177 : (Tok.mk 177 []).enc.length = 1 := rfl
theorem len117 : (Tok.mk 117 []).enc.length = 1 := rfl
theorem len81 : (Tok.mk 81 []).enc.length = 1 := rfl

/-- The tokens of a lock's script. -/
def lockT (d : List UInt8) : List Tok := [pushT d, ⟨177, []⟩, ⟨117, []⟩, ⟨81, []⟩]
theorem lockT_ok (d : List UInt8) (hd : NumOk d) : ∀ t ∈ lockT d, TokS t := by
  intro t ht
  simp only [lockT, List.mem_cons, List.not_mem_nil, or_false] at ht
  rcases ht with rfl | rfl | rfl | rfl
  · exact tokS_push d hd
  · exact .inl ⟨rfl, .inr (show 78 < 177 by omega), (show 177 ≤ 255 by omega), _, op177⟩
  · exact .inl ⟨rfl, .inr (show 78 < 117 by omega), (show 117 ≤ 255 by omega), _, op117⟩
  · exact .inl ⟨rfl, .inr (show 78 < 81 by omega), (show 81 ≤ 255 by omega), _, op81⟩
theorem lock_code (d : List UInt8) : code (lockT d) = (pushT d).enc ++ [177, 117, 81] := by
  simp [code, lockT, Tok.enc]

/-- What a run of the lock's script comes to. -/
def LockR (g : Nat) (B : Bd) (w : World) (d : List UInt8) (l : Nat) (r : Value) (w' : World) : Prop :=
  Fs g B w w' ∧ ((r = .nilIface ∧ Met (leV d) l ∧ ∃ cs', Vm w' g B cs' []) ∨ (Fault r ∧ ¬ Met (leV d) l ∧ ∃ cs', Vm w' g B cs' [d]))

theorem lock_goes {w : World} {g : Nat} {B : Bd} {sb pb po n c rn rc ib l : Nat} {cs : Array Value} (d : List UInt8) (hd : NumOk d) (hl : l < 4294967296)
    (hV : Vm w g B cs []) (hE : En cs sb 1 0 0 (.slice (some ⟨pb, po, none⟩) n c) 0 (-1)) (hn : n ≤ 10000)
    (hrd : Rd 0 w (.slice (some ⟨pb, po, none⟩) n c) (code (lockT d)))
    (h0 : cs[0]? = some (.int .u32 8)) (h2 : cs[2]? = some (.slice (some ⟨rn, 0, none⟩) 1 rc)) (h4 : cs[4]? = some (.int .u32 l)) (h5 : cs[5]? = some (.int .i64 0)) (h24 : cs[24]? = some (.bool false)) (h33 : cs[33]? = some .nilFunc)
    (hrn : rn < B.n) (hrg : rn ≠ g) (hib : ib < B.n) (hig : ib ≠ g) (hrow : w.cell? ⟨rn, 0, none⟩ = some (.pointer (some ⟨ib, 0, none⟩))) (hseq : w.cell? ⟨ib, 35, none⟩ = some (.int .u32 100)) :
    Goes g (LockR g B w d l) 4 w := by
  have hlen : n = (pushT d).enc.length + 3 := by
    have h1 := hrd.len.1
    rw [lock_code] at h1
    simpa using h1
  have hpp := (pushT d).enc_pos
  have hc := lock_code d
  -- the number
  obtain ⟨nm, dA, dc, h1⟩ := stepIn_tok (t := pushT d) (rest := [177, 117, 81]) (xs1 := [d]) (G := True) (F := False) (k' := 0) hV hE (by omega) (by omega) (by omega) (by simp) hrd (by rw [hc]; rfl) (tokS_push d hd) (by omega) (by omega)
    (fun dA dc w1 cs1 hr hv1 he1 hk _ hob _ => push_ran d hd hv1 he1 ((hk 24 (by omega)).trans h24) (by simp) hob rfl hr)
  refine goes_mid h1 (by omega) h33 ?_ (fun _ _ _ _ hF _ _ => hF.elim)
  intro w1 cs1 _ hv1 he1 hk1 hf1
  have hr1 := hf1.rd hV.blk hrd
  -- the lock
  obtain ⟨nm2, dA2, dc2, i2⟩ := stepIn_tok (t := ⟨177, []⟩) (rest := [117, 81]) (xs1 := [d]) (G := Met (leV d) l) (F := ¬ Met (leV d) l) (k' := 1) hv1 he1 (by omega) (by omega) (by omega) (by simp) hr1
    (by rw [hc, drop_at _ _ _ 0 (by omega)]; rfl) (lockT_ok d hd _ (by simp [lockT])) (by omega) (by omega)
    (fun dA dc w2 cs2 hr hv2 he2 hk2 hf2 hob hne => by
      refine great_ran (k := 0) hv2 he2 ((hk2 24 (by omega)).trans ((hk1 24 (by omega)).trans h24)) (by omega) (by omega) (by omega) (by omega) plain177 runs177 hob hne ?_
      intro w3 hv3 hf3 hcell
      have kk : ∀ i, i < 12 ∨ i = 22 ∨ (24 ≤ i ∧ i ≠ 28) → (cs2.setIfInBounds 28 (.int .i64 ((0 : Nat) + 1 : Int)))[i]? = cs[i]? := fun i hi => by
        rw [Array.getElem?_setIfInBounds, if_neg (by rintro rfl; omega)]
        exact (hk2 i hi).trans (hk1 i hi)
      have ff := (hf1.trans hf2).trans hf3
      refine (cltv_vm w3 g B l 0 rc rn ib 0 _ [] d _ _ hv3 (by simp) hd hl ((kk 0 (by omega)).trans h0) ?_ ((kk 4 (by omega)).trans h4) ((kk 2 (by omega)).trans h2) ((kk 5 (by omega)).trans h5) (ff.cell hrow hrn hrg) (by rw [Nat.zero_add]; exact ff.cell hseq hib hig)).mono ?_
      · rw [Array.getElem?_setIfInBounds, if_neg (by omega)]
        exact (hk2 24 (by omega)).trans ((hk1 24 (by omega)).trans h24)
      · rintro e w' ⟨r, rfl, hr, hb⟩
        exact ⟨r, rfl, hr, _, hv3.below hb, K23.refl _, Fs.of_below hb⟩)
  refine goes_mid i2 (by have := len177; have := len117; have := len81; omega) ((hk1 33 (by omega)).trans h33) ?_ (fun r w' cs' hF hN hv hf => ⟨hf1.trans hf, .inr ⟨hF, hN, cs', hv⟩⟩)
  intro w2 cs2 hmet hv2 he2 hk2 hf2
  have hr2 := hf2.rd hv1.blk hr1
  -- DROP
  obtain ⟨nm3, dA3, dc3, i3⟩ := stepIn_tok (t := ⟨117, []⟩) (rest := [81]) (xs1 := []) (G := True) (F := False) (k' := 2) hv2 he2 (by omega) (by omega) (by omega) (by simp) hr2
    (by rw [hc, drop_at _ _ _ 1 (by have := len177; omega)]; rfl) (lockT_ok d hd _ (by simp [lockT])) (by omega) (by omega)
    (fun dA dc w3 cs3 hr hv3 he3 hk3 hf3 hob hne => by
      refine great_ran (k := 1) hv3 he3 ((hk3 24 (by omega)).trans ((hk2 24 (by omega)).trans ((hk1 24 (by omega)).trans h24))) (by omega) (by omega) (by omega) (by omega) plain117 runs117 hob hne ?_
      intro w4 hv4 hf4 hcell
      refine (drop_vm w4 g B _ [] d _ _ hv4 (by simp)).mono ?_
      rintro e w' ⟨rfl, cs', a1, a2, a3⟩
      exact ⟨_, rfl, .inl ⟨rfl, trivial⟩, cs', a1, a2, a3⟩)
  refine goes_mid i3 (by have := len177; have := len117; have := len81; omega) ((hk2 33 (by omega)).trans ((hk1 33 (by omega)).trans h33)) ?_ (fun _ _ _ _ hF _ _ => hF.elim)
  intro w3 cs3 _ hv3 he3 hk3 hf3
  have hr3 := hf3.rd hv2.blk hr2
  -- 1
  obtain ⟨nm4, dA4, dc4, i4⟩ := stepIn_tok (t := ⟨81, []⟩) (rest := []) (xs1 := [[1]]) (G := True) (F := False) (k' := 2) hv3 he3 (by omega) (by omega) (by omega) (by simp) hr3
    (by rw [hc, drop_at _ _ _ 2 (by have := len177; have := len117; omega)]; rfl) (lockT_ok d hd _ (by simp [lockT])) (by omega) (by omega)
    (fun dA dc w4 cs4 hr hv4 he4 hk4 hf4 hob hne => small_ran hv4 he4 (by omega) (by simp) runs81 hob (.inl ((hv4.blk.cell 24).trans ((hk4 24 (by omega)).trans ((hk3 24 (by omega)).trans ((hk2 24 (by omega)).trans ((hk1 24 (by omega)).trans h24)))))) (opcodeN_vm w4 g B _ cs4 [] _ 81 (by omega) (by omega) hob hv4 (by simp)))
  refine goes_end i4 (by have := len177; have := len117; have := len81; omega) ((hk3 33 (by omega)).trans ((hk2 33 (by omega)).trans ((hk1 33 (by omega)).trans h33))) ?_ (fun _ _ _ _ hF _ _ => hF.elim)
  intro w4 cs4 _ hv4 h12 hk4 hf4
  have kall : ∀ i, i < 12 ∨ i = 22 ∨ (24 ≤ i ∧ i ≠ 28) → cs4[i]? = cs[i]? := fun i hi => (hk4 i hi).trans ((hk3 i hi).trans ((hk2 i hi).trans (hk1 i hi)))
  refine (check_fine w4 g B sb 8 cs4 hv4 ((kall 0 (by omega)).trans h0) (by decide) ((kall 30 (by omega)).trans hE.c30) ((kall 32 (by omega)).trans hE.c32) ((kall 11 (by omega)).trans hE.c11) h12).mono ?_
  rintro e w' ⟨rfl, cs', hv', hf'⟩
  exact ⟨_, rfl, .inl rfl, (((hf1.trans hf2).trans hf3).trans hf4).trans hf', .inl ⟨rfl, hmet, cs', hv'⟩⟩
end Go.Proofs.YtkgihpebghmnbaaGreatDoor

namespace Go.Proofs.YtkgihpebghmnbaaGreatDoor
open Go.RowKit Go.Proofs

set_option maxRecDepth 100000

/-- What the machine is that is built for a lock's spend. -/
def EngPost (w : World) (d : List UInt8) (l : Nat) (e : Ending) (w' : World) : Prop :=
  ∃ g B sb pb po n c rn rc ib cs, e = .returned (.tuple #[.pointer (some ⟨g, 0, none⟩), .nilIface]) ∧ Vm w' g B cs [] ∧ En cs sb 1 0 0 (.slice (some ⟨pb, po, none⟩) n c) 0 (-1) ∧ n ≤ 10000 ∧
    Rd 0 w' (.slice (some ⟨pb, po, none⟩) n c) (code (lockT d)) ∧ cs[0]? = some (.int .u32 8) ∧ cs[2]? = some (.slice (some ⟨rn, 0, none⟩) 1 rc) ∧ cs[4]? = some (.int .u32 l) ∧ cs[5]? = some (.int .i64 0) ∧ cs[24]? = some (.bool false) ∧ cs[33]? = some .nilFunc ∧
    rn < B.n ∧ rn ≠ g ∧ ib < B.n ∧ ib ≠ g ∧ w'.cell? ⟨rn, 0, none⟩ = some (.pointer (some ⟨ib, 0, none⟩)) ∧ w'.cell? ⟨ib, 35, none⟩ = some (.int .u32 100) ∧ Below w.heap.size w w' ∧ w.heap.size ≤ g ∧ w.heap.size ≤ B.n

theorem Fs.toBelow {b g : Nat} {B : Bd} {w w' : World} (h : Fs g B w w') (hw : b ≤ w.heap.size) (hg : b ≤ g) (hB : b ≤ B.n) : Below b w w' :=
  Fm.toBelow h hw fun k hk hm => by
    rcases hm with rfl | ⟨hm, -⟩ <;> omega
theorem Below.trans' {b : Nat} {w w1 w2 : World} (h : Below b w w1) (_hb : b ≤ w1.heap.size) (k : Below b w1 w2) : Below b w w2 :=
  ⟨k.os.trans h.os, k.tape.trans h.tape, k.output.trans h.output, Nat.le_trans h.size k.size, fun j hj => (k.block j hj).trans (h.block j hj)⟩
theorem Below.lower {b b' : Nat} {w w1 : World} (h : Below b w w1) (hb : b' ≤ b) : Below b' w w1 := ⟨h.os, h.tape, h.output, h.size, fun j hj => h.block j (by omega)⟩
end Go.Proofs.YtkgihpebghmnbaaGreatDoor
