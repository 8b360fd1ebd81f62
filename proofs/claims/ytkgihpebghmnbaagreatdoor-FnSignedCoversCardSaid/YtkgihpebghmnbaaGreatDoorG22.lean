/- The reference's own functions: the shortest push, a number's bytes. Structs that are made, loaded and stored whole. SHA-256: Sum onto a copy. SHA-256: Sum256. SHA-256: Sum256. The mark: the head of SHA-256 of two strings of bytes. The double hash of what a closure writes. -/
import Derived.Test.YtkgihpebghmnbaaGreatDoorG07
import Derived.Test.YtkgihpebghmnbaaGreatDoorG15
import Derived.LoopTactic
import Derived.Deep.LoopGhost
import Derived.WalkArith
import Derived.Test.YtkgihpebghmnbaaGreatDoorTx
import Derived.Deep.Cut
import Derived.Test.YtkgihpebghmnbaaGreatDoorShaSum
import Derived.Test.YtkgihpebghmnbaaGreatDoorG20
namespace Go.Proofs.YtkgihpebghmnbaaGreatDoor
open Go.RowKit Go.Proofs

set_option maxRecDepth 100000

theorem least_one (w : World) (b o c y : Nat) (h : w.cell? ⟨b, o, none⟩ = some (.int .u8 y)) (hy : y < 256) (r : Int)
    (hr : r = if 1 ≤ y ∧ y ≤ 16 then 80 + (y : Int) else if y = 129 then 79 else 1) :
    Calls Tryz.prog 21 #[.slice (some ⟨b, o, none⟩) 1 c] w fun e w' => e = .returned (.int .i64 r) ∧ w = w' := by
  rcases (show (1 ≤ y ∧ y ≤ 16) ∨ y = 129 ∨ y = 0 ∨ (17 ≤ y ∧ y ≠ 129) by omega) with h1 | h1 | h1 | h1
  · rw [if_pos h1] at hr
    subst hr
    obtain ⟨ha, hb⟩ := h1
    have ha' : 1 ≤ (y : Int) := by omega
    have hb' : (y : Int) ≤ 16 := by omega
    go_enter Tryz.func21, Tryz.ntmps21
    go_wp2
    go_ret
    exact ⟨rfl, rfl⟩
  · subst h1
    rw [if_neg (by omega), if_pos rfl] at hr
    subst hr
    go_enter Tryz.func21, Tryz.ntmps21
    go_wp2
    go_ret
    exact ⟨rfl, rfl⟩
  · subst h1
    rw [if_neg (by omega), if_neg (by omega)] at hr
    subst hr
    go_enter Tryz.func21, Tryz.ntmps21
    go_wp2
    go_ret
    exact ⟨rfl, rfl⟩
  · rw [if_neg (by omega), if_neg (by omega)] at hr
    subst hr
    obtain ⟨ha, hb⟩ := h1
    have ha' : 17 ≤ (y : Int) := by omega
    have ha3 : 1 ≤ (y : Int) := by omega
    have ha2 : ¬ ((y : Int) ≤ 16) := by omega
    have hb' : ¬ ((y : Int) = 129) := by omega
    have hb2 : ((y : Int) == 129) = false := by simp; omega
    go_enter Tryz.func21, Tryz.ntmps21
    go_wp2
    go_ret
    exact ⟨rfl, rfl⟩

theorem least_none (w : World) (A : Option Addr) (c : Nat) :
    Calls Tryz.prog 21 #[.slice A 0 c] w fun e w' => e = .returned (.int .i64 0) ∧ w = w' := by
  go_enter Tryz.func21, Tryz.ntmps21
  go_wp2
  go_ret
  exact ⟨rfl, rfl⟩

theorem least_many (w : World) (A : Option Addr) (n c : Nat) (h2 : 2 ≤ n) (h75 : n ≤ 75) :
    Calls Tryz.prog 21 #[.slice A n c] w fun e w' => e = .returned (.int .i64 n) ∧ w = w' := by
  have a1 : ¬ ((n : Int) = 0) := by omega
  have a2 : ((n : Int) == 0) = false := by simp; omega
  have a3 : ¬ ((n : Int) = 1) := by omega
  have a4 : ((n : Int) == 1) = false := by simp; omega
  have a5 : (n : Int) < 76 := by omega
  go_enter Tryz.func21, Tryz.ntmps21
  go_wp2
  go_ret
  exact ⟨rfl, rfl⟩

theorem least_any (w : World) (B : Nat) (A : Option Addr) (c : Nat) (d : List UInt8) (h : Rd B w (.slice A d.length c) d) (hn : d.length ≤ 75) :
    Calls Tryz.prog 21 #[.slice A d.length c] w fun e w' => e = .returned (.int .i64 (pushT d).op) ∧ w = w' := by
  match d, h, hn with
  | [], h, hn => exact least_none w A c
  | [x], h, hn =>
    obtain ⟨b, o, rfl, hc⟩ := h.cell (j := 0) (by simp)
    refine least_one w b o c x.toNat hc x.toNat_lt _ ?_
    unfold pushT
    have e : ([x].getD 0 0) = x := rfl
    rw [if_neg (by simp), e]
    by_cases h1 : 1 ≤ x.toNat ∧ x.toNat ≤ 16
    · rw [if_pos ⟨rfl, h1⟩, if_pos h1]
      simp
    · rw [if_neg (fun h => h1 h.2), if_neg h1]
      by_cases h2 : x.toNat = 129
      · rw [if_pos ⟨rfl, h2⟩, if_pos h2]; rfl
      · rw [if_neg (fun h => h2 h.2), if_neg h2, if_pos (by simp)]; rfl
  | x :: y :: r, h, hn =>
    have e : (pushT (x :: y :: r)).op = (x :: y :: r).length := by
      unfold pushT
      rw [if_neg (by simp), if_neg (by simp), if_neg (by simp), if_pos hn]
    rw [e]
    exact least_many w A _ c (by simp) hn

theorem own_one (w : World) (base : Nat) (t : TypeId) (v : Value) (hb : base ≤ w.heap.size) : (w.alloc (.cells #[v] t)).ownsRow base t 1 (.slice (some ⟨w.heap.size, 0, none⟩) 1 1) 1 [v] :=
  ⟨rfl, .inr ⟨w.heap.size, 1, #[v], rfl, hb, heap_alloc_new w _, by omega, by simp [maxLen], rfl, rfl⟩⟩

/-- The shortest push's bytes, where the opcode is all. -/
theorem spush_op (w : World) (A : Option Addr) (n c op : Nat) (h0 : op = 0 ∨ (79 ≤ op ∧ op ≤ 96))
    (hL : Calls Tryz.prog 21 #[.slice A n c] w fun e w' => e = .returned (.int .i64 op) ∧ w = w') :
    Calls Tryz.prog 8 #[.slice A n c] w fun e w' => ∃ A' c', e = .returned (.slice A' 1 c') ∧ w'.ownsRow w.heap.size 5 1 (.slice A' 1 c') 1 [.int .u8 op] ∧ Below w.heap.size w w' := by
  have HL := Lib.hid hL
  clear hL
  have hm : (op : Int) % 256 = op := by omega
  rcases h0 with rfl | ⟨h1, h2⟩
  · go_enter Tryz.func8, Tryz.ntmps8
    go_wp2_with fail
    refine HL.out.mono ?_
    rintro e w1 ⟨rfl, rfl⟩
    go_wp2
    go_ret
    exact ⟨_, _, rfl, own_one w _ _ _ (Nat.le_refl _), (Below.refl _ _).alloc (Nat.le_refl _) _⟩
  · have a1 : ¬ ((op : Int) = 0) := by omega
    have a2 : ((op : Int) == 0) = false := by simp; omega
    have a3 : 79 ≤ (op : Int) := by omega
    have a4 : (op : Int) ≤ 96 := by omega
    go_enter Tryz.func8, Tryz.ntmps8
    go_wp2_with fail
    refine HL.out.mono ?_
    rintro e w1 ⟨rfl, rfl⟩
    go_wp2
    go_ret
    exact ⟨_, _, rfl, own_one w _ _ _ (Nat.le_refl _), (Below.refl _ _).alloc (Nat.le_refl _) _⟩

theorem spush_data (w : World) (B : Nat) (A : Option Addr) (c : Nat) (d : List UInt8) (h1 : 1 ≤ d.length) (h75 : d.length ≤ 75) (hr : Rd B w (.slice A d.length c) d)
    (hL : Calls Tryz.prog 21 #[.slice A d.length c] w fun e w' => e = .returned (.int .i64 d.length) ∧ w = w') :
    Calls Tryz.prog 8 #[.slice A d.length c] w fun e w' => ∃ A' c', e = .returned (.slice A' (1 + d.length) c') ∧ w'.ownsRow w.heap.size 5 1 (.slice A' (1 + d.length) c') (1 + d.length) (.int .u8 d.length :: bv d) ∧ Below w.heap.size w w' := by
  obtain ⟨i0, hi, hz0, hz1, hz2⟩ := info_parts info_u8
  have HL := Lib.hid hL
  have HC := Lib.hid ((Cells.of_rd hr).below ((Below.refl w.heap.size w).alloc (Nat.le_refl _) (.cells #[.int .u8 d.length] 5)))
  have hone : Hid (∀ u ∈ bv d, u.oneCell' = true) := by
    intro u hu
    simp only [bv, List.mem_map] at hu
    obtain ⟨b, _, rfl⟩ := hu
    rfl
  clear hL hr
  generalize d.length = n at *
  have hm : (n : Int) % 256 = n := by omega
  have a1 : ¬ ((n : Int) = 0) := by omega
  have a2 : ((n : Int) == 0) = false := by simp; omega
  have a3 : ¬ (79 ≤ (n : Int)) := by omega
  have a5 : ¬ (76 ≤ (n : Int)) := by omega
  have a4 : (n : Int) ≤ 75 := by omega
  go_enter Tryz.func8, Tryz.ntmps8
  go_wp2_with fail
  refine HL.out.mono ?_
  rintro e w1 ⟨rfl, rfl⟩
  go_wp2
  refine wp_loop_rounds 1 ?_
  rw [rounds_succ]
  go_wp2_with (at_builtin; refine Stop.mk ?_)
  refine Stop.go ?_
  refine wpList_append_cells _ rfl (.tmp 39) (.tmp 40) 30 rfl w.heap.size 5 i0 _ 1 Tryz.underlying30 hi hz0 hz1 hz2 rfl _ 1 [.int .u8 n] rfl (own_one w _ _ _ (Nat.le_refl _)) A n c (bv d) rfl HC.out hone.out (by omega) (by omega) (by simp) ?_
  intro v' w1 hown' hgrow hat
  obtain ⟨A', c', rfl⟩ := own_form hown'
  have HB := Lib.hid (((Below.refl w.heap.size w).alloc (Nat.le_refl _) (.cells #[.int .u8 n] 5)).grown hgrow (by simp) (fun k hk => by injection hk with hk; exact Nat.le_of_eq hk))
  have HO := Lib.hid hown'
  clear hown' hgrow hat
  go_wp2
  go_ret
  exact ⟨_, _, rfl, HO.out, HB.out⟩

/-- A number's shortest push. -/
theorem push_spec (w : World) (B : Nat) (A : Option Addr) (c : Nat) (d : List UInt8) (hd : NumOk d) (h : Rd B w (.slice A d.length c) d) :
    Calls Tryz.prog 8 #[.slice A d.length c] w fun e w' => ∃ A' c', e = .returned (.slice A' (pushT d).enc.length c') ∧
      w'.ownsRow w.heap.size 5 1 (.slice A' (pushT d).enc.length c') (pushT d).enc.length (bv (pushT d).enc) ∧ Below w.heap.size w w' := by
  have hL := least_any w B A c d h (by have := hd.1; omega)
  obtain ⟨h5, hl⟩ := hd
  by_cases h0 : d.length = 0
  · have : d = [] := List.eq_nil_of_length_eq_zero h0
    subst this
    exact spush_op w A 0 c 0 (.inl rfl) hL
  · by_cases h1 : d.length = 1 ∧ 1 ≤ (d.getD 0 0).toNat ∧ (d.getD 0 0).toNat ≤ 16
    · have e : pushT d = ⟨80 + (d.getD 0 0).toNat, []⟩ := by unfold pushT; rw [if_neg h0, if_pos h1]
      have en : (pushT d).enc = [UInt8.ofNat (80 + (d.getD 0 0).toNat)] := by
        rw [e]; unfold Tok.enc
        simp only
        rw [if_neg (by omega), if_neg (by omega), if_neg (by omega), if_neg (by omega)]
      have ev0 : ∀ y : Nat, y ≤ 16 → (UInt8.ofNat (80 + y)).toNat = 80 + y := fun y hy => by simp; omega
      have ev := ev0 _ h1.2.2
      rw [e] at hL
      refine (spush_op w A d.length c (80 + (d.getD 0 0).toNat) (.inr (by omega)) hL).mono ?_
      rintro e w' ⟨A', c', rfl, h2, h3⟩
      rw [en]
      refine ⟨A', c', rfl, ?_, h3⟩
      show w'.ownsRow _ _ _ _ _ [.int .u8 ((UInt8.ofNat (80 + (d.getD 0 0).toNat)).toNat : Int)]
      rw [ev]
      exact h2
    · by_cases h2 : d.length = 1 ∧ (d.getD 0 0).toNat = 129
      · exfalso
        obtain ⟨ha, hb⟩ := h2
        rw [one_byte ha] at hl
        simp at hl
        simp at hb
        omega
      · have e : pushT d = ⟨d.length, d⟩ := by unfold pushT; rw [if_neg h0, if_neg h1, if_neg h2, if_pos (by omega)]
        have en : (pushT d).enc = UInt8.ofNat d.length :: d := by
          rw [e]; unfold Tok.enc
          simp only
          rw [if_neg h0, if_pos (by omega)]
        have ev : (UInt8.ofNat d.length).toNat = d.length := by simp; omega
        rw [e] at hL
        refine (spush_data w B A c d (by omega) (by omega) h hL).mono ?_
        rintro e w' ⟨A', c', rfl, h2, h3⟩
        have el : (UInt8.ofNat d.length :: d).length = 1 + d.length := by simp; omega
        rw [en, el]
        refine ⟨A', c', rfl, ?_, h3⟩
        show w'.ownsRow _ _ _ _ _ (.int .u8 ((UInt8.ofNat d.length).toNat : Int) :: bv d)
        rw [ev]
        exact h2
end Go.Proofs.YtkgihpebghmnbaaGreatDoor

namespace Go.Proofs.YtkgihpebghmnbaaGreatDoor
open Go.RowKit Go.Proofs

set_option maxRecDepth 100000

theorem wpList_buildSlice {P : Program} {w w' : World} {ops : Array Oper} {rest : List Oper} {o : Oper} {a : Act} {Q : Exit → Act → World → Prop} (t : TypeId) (n : Nat) (fs : Array (Nat × Operand)) (_ho : o.op = .buildSlice t n fs) (hgd : o.guard = none) (v : Value)
    (hr : (execOp a.eval o).run P w = .ok (.value v) w') (h : wpList P ops Q rest (a.put o.dst v) w') : wpList P ops Q (o :: rest) a w := wpList_run_value hgd v hr h

theorem Blk.setRow {w : World} {g : Nat} {t : TypeId} {cs : Array Value} (h : Blk w g t cs) (cs' : Array Value) : Blk (w.setRow g cs') g t cs' := setRow_heap w g cs cs' t (0, 0) h
theorem Fm.setRow {w w' : World} {g : Nat} (h : Fm (M1 g) w w') (cs : Array Value) : Fm (M1 g) w (w'.setRow g cs) :=
  ⟨h.os, h.tape, h.output, by simpa [World.setRow] using h.size, fun k hk hn => by
    have : k ≠ g := hn
    rw [← h.block k hk hn]
    simp only [World.setRow, Array.getElem?_modify]
    rw [if_neg (Ne.symm this)]⟩
theorem storeAt_row {P : Program} (w : World) (g : Nat) (t ty : TypeId) (old cells : Array Value) (hg : w.heap[g]? = some (.cells old t (0, 0))) (hi : (P.info? ty).map (·.size) = some cells.size) (ho : old.size = cells.size) (h1 : cells.all (·.oneCell') = true) :
    (Instr.storeAt ty (.pointer (some ⟨g, 0, none⟩)) (.agg cells)).run P w = .ok () (w.setRow g cells) := by
  simp only [Instr.storeAt, Instr.sureAddr, Sem.run_bind, Sem.run_pure, Result.andThen]
  exact run_storeVar_row w g t ty old cells hg hi ho h1
theorem loadAt_row {P : Program} (w : World) (g : Nat) (t ty : TypeId) (cells : Array Value) {d : TypeDesc} (hg : w.heap[g]? = some (.cells cells t (0, 0))) (hu : P.underlying ty = some d)
    (hd : (match d with | .struct _ | .array _ _ => true | _ => false) = true) (hi : (P.info? ty).map (·.size) = some cells.size) :
    (Instr.loadAt ty (.pointer (some ⟨g, 0, none⟩))).run P w = .ok (.agg cells) w := by
  simp only [Instr.loadAt, Instr.sureAddr, Sem.run_bind, Sem.run_pure, Result.andThen]
  exact run_loadVar_row w g t ty cells (0, 0) d hg hu hd hi
theorem info_spend : (Tryz.prog.info? 48).map (·.size) = some 8 := by kernel_rfl
theorem info_tx : (Tryz.prog.info? 27).map (·.size) = some 4 := by kernel_rfl
end Go.Proofs.YtkgihpebghmnbaaGreatDoor

namespace Go.Proofs.YtkgihpebghmnbaaGreatDoor
open Go.RowKit Go.Proofs

set_option maxRecDepth 100000

theorem getIndicator_run (w : World) : (callFunc 299 #[]).run Tryz.prog w = .ok (.value (.int .u8 0)) w := by
  rw [run_callFunc_extern Tryz.func299 (by kernel_rfl) (by kernel_rfl) (by kernel_rfl) (e := fun _ => pure (.int .u8 0)) (by kernel_rfl)]
  rfl
theorem setIndicator_run (w : World) (v : Value) : (callFunc 300 #[v]).run Tryz.prog w = .ok (.value (.tuple #[])) w := by
  rw [run_callFunc_extern Tryz.func300 (by kernel_rfl) (by kernel_rfl) (by kernel_rfl) (e := fun _ => pure (.tuple #[])) (by kernel_rfl)]
  rfl

theorem record_any (w : World) :
    Calls Tryz.prog 296 #[] w fun e w' => e = .returned (.tuple #[]) ∧ w' = w := by
  have h1 := getIndicator_run w
  have h2 := setIndicator_run w
  go_enter Tryz.func296, Tryz.ntmps296
  go_wp2
  go_end0
  exact ⟨rfl, rfl⟩

/-- An append that is known to run. -/
theorem wpList_append_run {P : Program} {w w' : World} {ops : Array Oper} {rest : List Oper} {o : Oper} {a : Act} {Q : Exit → Act → World → Prop} (hgd : o.guard = none) (s x : Operand) (t : TypeId)
    (ho : o.op = .call { callee := .builtin .append, args := #[s, x], argTypes := #[t, t] }) (v u v' : Value) (hs : a.eval s = v) (hx : a.eval x = u)
    (hr : (Builtin.append_ #[t, t] o.type #[v, u]).run P w = .ok v' w') (h : wpList P ops Q rest (a.put o.dst v') w') : wpList P ops Q (o :: rest) a w :=
  wpList_plain hgd fun K hK => by
    unfold Oper.wp execOp
    simp only [ho, resolve, invoke, builtin, Sem.run_bind, Sem.run_pure, Result.andThen_ok, List.map_toArray, List.map_cons, List.map_nil, hs, hx, hr]
    exact hK _ _ h

theorem Sh.one (s : Sh) : s.cells.toArray.all (·.oneCell') = true := by simp [Sh.cells, bv, Value.oneCell']
theorem info_dg : (Tryz.prog.info? 204).map (·.size) = some 75 := by kernel_rfl
theorem load_dg (w : World) (d : Nat) (s : Sh) (h : Dg w d s) : (Instr.loadAt 204 (.pointer (some ⟨d, 0, none⟩))).run Tryz.prog w = .ok (.agg s.cells.toArray) w :=
  loadAt_row w d 204 204 s.cells.toArray h.1 Tryz.underlying204 rfl (by rw [Sh.size h.2]; exact info_dg)

set_option maxHeartbeats 2000000 in
theorem sum_any (kc : Nat → Int) (w : World) (d : Nat) (s : Sh) (hd : Dg w d s) (hk : KT kc w) (hlen : s.len < 18446744073709551616) (hnx : s.nx = s.len % 64) (inp : Value) (R : Value → World → Prop)
    (happ : ∀ w1 b, Below w.heap.size w w1 → w.heap.size ≤ b → Blk w1 b 22 (bv (s.out kc)).toArray → ∃ v' w', (Builtin.append_ #[30, 30] 30 #[inp, .slice (some ⟨b, 0, none⟩) 32 32]).run Tryz.prog w1 = .ok v' w' ∧ R v' w') :
    Calls Tryz.prog 294 #[.pointer (some ⟨d, 0, none⟩), inp] w fun e w' => ∃ v, e = .returned v ∧ R v w' := by
  have HR := Lib.hid (record_any w)
  have HA := Lib.hid happ
  have hld := load_dg w d s hd
  have hsz := Sh.size hd.2
  have hgl := World.block_lt_of_cell? w _ (hk 0 (by omega))
  have hb1 := (Below.refl w.heap.size w).alloc (Nat.le_refl _) (.cells s.cells.toArray 204)
  have hk1 : KT kc (w.alloc (.cells s.cells.toArray 204)) := fun i hi => cell_keep hb1 (hk i hi)
  have hd1 : Dg (w.alloc (.cells s.cells.toArray 204)) w.heap.size s := ⟨Blk.new w 204 s.cells.toArray, hd.2⟩
  have HC := Lib.hid (checkSum_any kc _ w.heap.size s hd1 hk1 (by have : 3 < w.heap.size := hgl; omega) hlen hnx)
  have HB1 := Lib.hid hb1
  have hC : (bv (s.out kc)).toArray.size = 32 := by simp [Sh.out, bv_length, sumB_length]
  have hone := bv_one (s.out kc)
  have hs1 := Sh.one s
  have hz3 : (Tryz.prog.info? 22).map (·.size) = some 32 := by kernel_rfl
  have hds := info_dg
  rw [← hsz] at hds
  rw [← hC] at hz3
  have hzz : ShZ.cells.toArray.size = s.cells.toArray.size := by rw [hsz]; rfl
  clear happ hk hd hk1 hd1 hb1
  generalize hDe : s.cells.toArray = D at *
  generalize hCe : (bv (s.out kc)).toArray = C at *
  go_enter Tryz.func294, Tryz.ntmps294
  go_wp2_with fail
  refine HR.out.mono ?_
  rintro e w0 ⟨rfl, rfl⟩
  go_wp2_with (refine wpList_load 204 (.tmp 9) rfl rfl (.agg D) (exec_load 204 (.tmp 9) rfl rfl hld) ?_; refine Stop.mk ?_)
  refine Stop.go ?_
  refine wpList_alloc 204 rfl rfl ShZ.cells.toArray (by kernel_rfl) ?_
  refine wpList_store_new (w := w0) rfl (.tmp 5) (.tmp 10) 204 rfl rfl _ D rfl rfl hds hzz hs1 ?_
  go_wp2_with fail
  refine HC.out.mono ?_
  rintro e w2 ⟨rfl, ⟨s', hd2⟩, hf2⟩
  go_wp2_with (refine wpList_alloc 22 rfl rfl (Array.replicate 32 (.int .u8 0)) (by kernel_rfl) ?_; refine Stop.mk ?_)
  refine Stop.go ?_
  refine wpList_store_new (w := w2) rfl (.tmp 6) (.tmp 11) 22 rfl rfl _ C rfl rfl hz3 (by rw [hC]; rfl) hone ?_
  have hbw : Below w0.heap.size w0 w2 := Below.fm HB1.out hf2 HB1.out.size (fun k hk hm => by
    have : k = w0.heap.size := hm
    omega)
  have hb3 := hbw.alloc hbw.size (.cells C 22)
  have hq := ((hd2.1.below ((Below.refl w2.heap.size w2).alloc (Nat.le_refl _) (.cells C 22)) hd2.1.lt).cell 74).trans (Sh.cell_is hd2.2)
  obtain ⟨v', w', hrun, hR⟩ := HA.out _ w2.heap.size hb3 hbw.size (Blk.new w2 22 C)
  have HRR := Lib.hid hR
  clear hR hb3 hbw hd2 hf2 HC HA
  go_upto_region 6 with fail
  go_wp2_with (refine wpList_append_run rfl (.tmp 17) (.tmp 18) 30 rfl _ _ v' ?_ ?_ hrun ?_)
  · rfl
  · rfl
  · go_ret
    exact ⟨_, rfl, HRR.out⟩
end Go.Proofs.YtkgihpebghmnbaaGreatDoor

namespace Go.Proofs.YtkgihpebghmnbaaGreatDoor
open Go.RowKit Go.Proofs

set_option maxRecDepth 100000

theorem rest_len (kc : Nat → Int) (s : Sh) (bs : List UInt8) : (s.rest kc bs).len = s.len := by
  unfold Sh.rest
  simp only
  split <;> split <;> rfl
theorem feed_len (kc : Nat → Int) (s : Sh) (bs : List UInt8) : (s.feed kc bs).len = (s.len + bs.length) % 18446744073709551616 := by
  unfold Sh.feed
  simp only
  split
  · exact rest_len kc _ _
  · split
    · rfl
    · exact rest_len kc _ _
theorem Sh.out_length (kc : Nat → Int) (s : Sh) : (s.out kc).length = 32 := rfl

/-- An append within the room of a block, of whatever type the block is. -/
theorem run_append_into {P : Program} (w : World) (t ty e tb : TypeId) (i : TypeInfo) (ht : P.underlying t = some (.slice e)) (hi : P.info? e = some i) (h1 : i.size = 1)
    (g c m cs b : Nat) (cur : Array Value) (hg : Blk w g tb cur) (news : List Value) (hs : Cells w (some ⟨b, 0, none⟩) m news) (ho : ∀ u ∈ news, u.oneCell' = true) (hm : 0 < m) (hc : m ≤ c) (hz : cur.size = m) :
    (Builtin.append_ #[t, t] ty #[.slice (some ⟨g, 0, none⟩) 0 c, .slice (some ⟨b, 0, none⟩) m cs]).run P w = .ok (.slice (some ⟨g, 0, none⟩) m c) (w.setRow g news.toArray) := by
  have hl := hs.1
  have hcells : ∀ j u, news[j]? = some u → w.cell? ((⟨b, 0, none⟩ : Addr).add j) = some u := by
    intro j u hu
    obtain ⟨b', o', h, hq⟩ := hs.2 hm
    injection h with h
    injection h with h1 h2
    subst h1; subst h2
    rw [addr_add]
    exact hq j u hu
  have hf := run_firstCells_some (P := P) w i.size m ⟨b, 0, none⟩ m cs news (by rw [hl, h1, Nat.mul_one]) hcells
  have hst := run_storeCells_at P g 0 tb news 0 cur w hg (by omega) ho
  have e1 : (List.take (0 + 0) cur.toList ++ news ++ List.drop (0 + 0 + news.length) cur.toList) = news := by
    rw [List.drop_of_length_le (by simp; omega)]
    simp
  rw [e1] at hst
  simp [Builtin.append_, run_underlying ht, sizeOf, typeInfo, hi, Builtin.lenOf, hc, hf, addr_add, hst]

theorem Cells.of_blk {w : World} {b m : Nat} {t : TypeId} {vs : List Value} (h : Blk w b t vs.toArray) (hm : vs.length = m) : Cells w (some ⟨b, 0, none⟩) m vs :=
  ⟨hm, fun _ => ⟨b, 0, rfl, fun j u hu => by rw [Nat.zero_add, h.cell]; simpa using hu⟩⟩
theorem bv_ones (bs : List UInt8) : ∀ u ∈ bv bs, u.oneCell' = true := by
  intro u hu
  simp [bv] at hu
  obtain ⟨a, _, rfl⟩ := hu
  rfl

/-- The state of a hash that is fit to be summed. -/
structure ShOk (s : Sh) : Prop where
  nx : s.nx = s.len % 64
  len : s.len < 18446744073709551616
theorem ShOk.zero : ShOk Sh0 := ⟨rfl, by decide⟩
theorem ShOk.feed {s : Sh} (h : ShOk s) (kc : Nat → Int) (bs : List UInt8) : ShOk (s.feed kc bs) := by
  have h1 := h.nx
  have h2 := h.len
  refine ⟨?_, ?_⟩
  · rw [feed_nx kc s bs (by omega), feed_len]
    omega
  · rw [feed_len]
    exact Nat.mod_lt _ (by decide)
theorem ShOk.nx64 {s : Sh} (h : ShOk s) : s.nx < 64 := by
  rw [h.nx]
  exact Nat.mod_lt _ (by decide)

/-- Sum into an array that is there: sum[:0]. -/
theorem sum_into (kc : Nat → Int) (w : World) (tb : TypeId) (d g : Nat) (s : Sh) (Z : Array Value) (hd : Dg w d s) (hk : KT kc w) (hs : ShOk s) (hg : Blk w g tb Z) (hz : Z.size = 32) :
    Calls Tryz.prog 294 #[.pointer (some ⟨d, 0, none⟩), .slice (some ⟨g, 0, none⟩) 0 32] w fun e w' =>
      e = .returned (.slice (some ⟨g, 0, none⟩) 32 32) ∧ Blk w' g tb (bv (s.out kc)).toArray ∧ Fm (M1 g) w w' := by
  obtain ⟨i, hi, _, h1, _⟩ := info_parts info_u8
  refine (sum_any kc w d s hd hk hs.len hs.nx (.slice (some ⟨g, 0, none⟩) 0 32)
    (fun v w' => v = .slice (some ⟨g, 0, none⟩) 32 32 ∧ Blk w' g tb (bv (s.out kc)).toArray ∧ Fm (M1 g) w w') ?_).mono ?_
  · intro w1 b hb hle hbb
    have hg1 := hg.below hb hg.lt
    have hl : (bv (s.out kc)).length = 32 := by rw [bv_length, Sh.out_length]
    refine ⟨_, _, run_append_into w1 30 30 5 tb i Tryz.underlying30 hi h1 g 32 32 32 b Z hg1 (bv (s.out kc)) (Cells.of_blk hbb hl) (bv_ones _) (by omega) (Nat.le_refl _) hz, rfl, cBlk_setRow hg1 _, ?_⟩
    exact (Fm.of_below hb).trans (cFm_setRow (g := g) (Fm.refl _ _) _)
  · rintro e w' ⟨v, rfl, rfl, h2, h3⟩
    exact ⟨rfl, h2, h3⟩
end Go.Proofs.YtkgihpebghmnbaaGreatDoor

namespace Go.Proofs.YtkgihpebghmnbaaGreatDoor
open Go.RowKit Go.Proofs

set_option maxRecDepth 100000

/-- SHA-256 of these bytes. -/
def sha (kc : Nat → Int) (bs : List UInt8) : List UInt8 := (Sh0.feed kc bs).out kc
theorem sha_length (kc : Nat → Int) (bs : List UInt8) : (sha kc bs).length = 32 := rfl

theorem nilAhead_sum (k d : Nat) (w : World) : (nilAhead (k + 1) 181 (.pointer (some ⟨d, 0, none⟩)) "Sum").run Tryz.prog w = .ok (some false) w := by kernel_rfl

set_option maxHeartbeats 2000000 in
theorem sum256_any (kc : Nat → Int) (w : World) (A : Option Addr) (n c : Nat) (bs : List UInt8) (hk : KT kc w) (hc : Cells w A n (bv bs)) (hcc : n ≤ c) (hn : n ≤ 1000000) (hlt : ∀ b o, A = some ⟨b, o, none⟩ → b < w.heap.size) :
    Calls Tryz.prog 38 #[.slice A n c] w fun e w' => e = .returned (.agg (bv (sha kc bs)).toArray) ∧ Below w.heap.size w w' := by
  have hna := nilAhead_sum
  have hgl : 3 < w.heap.size := World.block_lt_of_cell? w _ (hk 0 (by omega))
  have hb1 := (Below.refl w.heap.size w).alloc (Nat.le_refl _) (.cells (Array.replicate 32 (.int .u8 0)) 22)
  have hr1 := Blk.new w 22 (Array.replicate 32 (.int .u8 0))
  have hk1 : KT kc (w.alloc (.cells (Array.replicate 32 (.int .u8 0)) 22)) := fun i hi => cell_keep hb1 (hk i hi)
  have hc1 := hc.below hb1
  have HN := Lib.hid (new_any (w.alloc (.cells (Array.replicate 32 (.int .u8 0)) 22)))
  have HK := Lib.hid hk1
  have HC := Lib.hid hc1
  have HB := Lib.hid hb1
  have HR := Lib.hid hr1
  clear hk hc hb1 hr1 hk1 hc1
  go_enter Tryz.func38, Tryz.ntmps38
  go_wp2_with (refine wpList_alloc 22 rfl rfl (Array.replicate 32 (.int .u8 0)) (by kernel_rfl) ?_; refine Stop.mk ?_)
  refine Stop.go ?_
  generalize hw1 : w.alloc (.cells (Array.replicate 32 (.int .u8 0)) 22) = w1 at *
  have hs1 : w1.heap.size = w.heap.size + 1 := by rw [← hw1]; simp
  go_wp2_with fail
  refine HN.out.mono ?_
  rintro e w2 ⟨d, rfl, hd0, hd, hb2⟩
  have hk2 : KT kc w2 := fun i hi => cell_keep hb2 (HK.out i hi)
  have hc2 := HC.out.below hb2
  have hr2 := HR.out.below hb2 HR.out.lt
  have HWR := Lib.hid (write_any kc w2 d n c A bs Sh0 hd (by decide) (by decide) hk2 (by omega) hc2 (fun b o e => by have := hlt b o e; omega) hcc hn)
  have HK2 := Lib.hid hk2
  have HR2 := Lib.hid hr2
  have HB2 := Lib.hid hb2
  clear hd hk2 hc2 hr2 hb2
  go_wp2_with fail
  refine HWR.out.mono ?_
  rintro e w3 ⟨rfl, hd3, hf3⟩
  have hk3 := HK2.out.fm hf3 (by omega)
  have hr3 := HR2.out.fm hf3 (show ¬ M1 d w.heap.size by show ¬ w.heap.size = d; omega)
  have hok := ShOk.zero.feed kc bs
  have HD3 := Lib.hid hd3
  have HK3 := Lib.hid hk3
  have HR3 := Lib.hid hr3
  have HF3 := Lib.hid hf3
  have HOK := Lib.hid hok
  clear hd3 hk3 hr3 hf3 hok HWR HN
  go_wp2_with (refine wpList_alloc 22 rfl rfl (Array.replicate 32 (.int .u8 0)) (by kernel_rfl) ?_; refine Stop.mk ?_)
  refine Stop.go ?_
  go_upto_region 5 with fail
  have hg4 := Blk.new w3 22 (Array.replicate 32 (Value.int .u8 0))
  have hb4 := (Below.refl w3.heap.size w3).alloc (Nat.le_refl _) (.cells (Array.replicate 32 (.int .u8 0)) 22)
  have hd4 : Dg (w3.alloc (.cells (Array.replicate 32 (Value.int .u8 0)) 22)) d _ := ⟨HD3.out.1.below hb4 HD3.out.1.lt, HD3.out.2⟩
  have hk4 : KT kc (w3.alloc (.cells (Array.replicate 32 (Value.int .u8 0)) 22)) := fun i hi => cell_keep hb4 (HK3.out i hi)
  have hr4 := HR3.out.below hb4 HR3.out.lt
  have hrl := HR3.out.lt
  generalize hge : w3.heap.size = g at *
  generalize w3.alloc (.cells (Array.replicate 32 (.int .u8 0)) 22) = w4 at *
  have HS := Lib.hid (sum_into kc w4.drew _ d g _ _ (show Dg w4.drew d _ from hd4) (show KT kc w4.drew from hk4) HOK.out (show Blk w4.drew g _ _ from hg4) (by simp))
  have HR4 := Lib.hid hr4
  have HB4 := Lib.hid hb4
  clear hg4 hb4 hd4 hk4 hr4
  go_region_held3 (fun w' => True) (trivial)
    (first | (refine HS.out.mono ?_; rintro e w5 ⟨rfl, hg5, hf5⟩))
  have hC : (bv (sha kc bs)).toArray.size = 32 := by simp [bv_length, sha_length]
  have hone := bv_one (sha kc bs)
  have hr5 := (show Blk w4.drew w.heap.size _ _ from HR4.out).fm hf5 (show ¬ w.heap.size = g by omega)
  have f2 : Below w.heap.size w w2 := HB.out.trans (HB2.out.mono (by omega))
  have f3 : Below w.heap.size w w3 := Below.fm f2 HF3.out f2.size (fun k hk hm => by have : k = d := hm; omega)
  have f4 : Below w.heap.size w w4.drew := (f3.trans (HB4.out.mono (by omega))).drew
  have f5 : Below w.heap.size w w5 := Below.fm f4 hf5 f4.size (fun k hk hm => by have : k = g := hm; omega)
  have f6 : Below w.heap.size w (w5.setRow w.heap.size (bv (sha kc bs)).toArray) := Below.fm f5 (cFm_setRow (g := w.heap.size) (Fm.refl _ _) _) f5.size (fun k hk hm => by have : k = w.heap.size := hm; omega)
  have hrw := cBlk_setRow hr5 (bv (sha kc bs)).toArray
  have hld := load_at32 w5 g _ hg5 hC
  have hst := store_at32 w5 w.heap.size _ (bv (sha kc bs)).toArray hr5 (by simp) hC hone
  have hlv := load_row32 (w5.setRow w.heap.size (bv (sha kc bs)).toArray) w.heap.size _ hrw hC
  have F6 := Lib.hid f6
  change (Instr.loadAt _ _).run _ _ = Result.ok (Value.agg (bv (sha kc bs)).toArray) _ at hld
  generalize hCe : (bv (sha kc bs)).toArray = C at *
  clear f2 f3 f4 f5 f6 hrw hg5 hr5 hf5 HS HR4 HB4 HF3 HR3 HD3
  go_wp2_with (refine wpList_load 22 (.tmp 4) rfl rfl (.agg C) (exec_load 22 (.tmp 4) rfl rfl hld) ?_; refine Stop.mk ?_)
  refine Stop.go ?_
  refine wpList_skip rfl rfl (exec_store 22 (.tmp 2) (.tmp 17) rfl rfl rfl hst) ?_
  go_wp2
  refine bodyPost_ret (v := .agg C) ?_ rfl ?_
  · exact results_cell rfl _ _ _ w.heap.size _ rfl hlv
  · exact ⟨by rw [hCe], F6.out⟩
end Go.Proofs.YtkgihpebghmnbaaGreatDoor

namespace Go.Proofs.YtkgihpebghmnbaaGreatDoor
open Go.RowKit Go.Proofs

set_option maxRecDepth 100000

set_option maxHeartbeats 2000000 in
theorem mark_any (kc : Nat → Int) (w : World) (A1 A2 : Option Addr) (n1 n2 c1 c2 : Nat) (bs1 bs2 : List UInt8) (hk : KT kc w) (h1 : Cells w A1 n1 (bv bs1)) (h2 : Cells w A2 n2 (bv bs2)) (hn : n1 + n2 ≤ 1000000) :
    Calls Tryz.prog 26 #[.slice A1 n1 c1, .slice A2 n2 c2] w fun e w' => ∃ g, e = .returned (.slice (some ⟨g, 0, none⟩) 4 32) ∧ w.heap.size ≤ g ∧ Blk w' g 22 (bv (sha kc (bs1 ++ bs2))).toArray ∧ Below w.heap.size w w' := by
  obtain ⟨i0, hi, hz0, hz1, hz2⟩ := info_parts info_u8
  have H1 := Lib.hid h1
  have H2 := Lib.hid h2
  have HK := Lib.hid hk
  clear h1 h2 hk
  have hb1 := (Below.refl w.heap.size w).alloc (Nat.le_refl _) (.cells #[] 5)
  have hown := World.ownsRow_made (base := w.heap.size) (e := 5) (size := 1) w #[] 0 (Nat.le_refl _) (by simp [maxLen]) rfl
  have HB1 := Lib.hid hb1
  have HO := Lib.hid hown
  clear hb1 hown
  go_enter Tryz.func26, Tryz.ntmps26
  go_wp2_with (refine wpList_buildSlice 30 0 _ rfl rfl (.slice (some ⟨w.heap.size, 0, none⟩) 0 0) (w' := w.alloc (.cells #[] 5)) (by kernel_rfl) ?_; refine Stop.mk ?_)
  refine Stop.go ?_
  generalize w.alloc (.cells #[] 5) = w1 at *
  go_wp2_with (refine wpList_append_cells _ rfl (.tmp 6) (.tmp 7) 30 rfl w.heap.size 5 i0 _ 1 Tryz.underlying30 hi hz0 hz1 hz2 rfl _ 0 [] rfl HO.out A1 n1 c1 (bv bs1) rfl (H1.out.below HB1.out) (bv_ones _) (by omega) (by omega) HB1.out.size ?_; refine Stop.mk ?_)
  refine Stop.go ?_
  intro v2 w2 ho2 hg2 hl2
  have hb2 : Below w.heap.size w w2 := HB1.out.grown hg2 HB1.out.size (fun k hk => (World.ownsRow.lt HO.out k hk).1)
  have HB2 := Lib.hid hb2
  have HO2 := Lib.hid ho2
  clear hb2 ho2 hg2 hl2
  go_wp2_with (refine wpList_append_cells _ rfl (.tmp 8) (.tmp 9) 30 rfl w.heap.size 5 i0 _ 1 Tryz.underlying30 hi hz0 hz1 hz2 rfl v2 n1 (bv bs1) rfl HO2.out A2 n2 c2 (bv bs2) rfl (H2.out.below HB2.out) (bv_ones _) (by omega) (by omega) HB2.out.size ?_; refine Stop.mk ?_)
  refine Stop.go ?_
  intro v3 w3 ho3 hg3 hl3
  have hb3 : Below w.heap.size w w3 := HB2.out.grown hg3 HB2.out.size (fun k hk => (World.ownsRow.lt HO2.out k hk).1)
  have e3 : bv bs1 ++ bv bs2 = bv (bs1 ++ bs2) := (bv_append _ _).symm
  rw [e3] at ho3
  obtain ⟨A3, c3, rfl⟩ := own_form ho3
  have hcap : n1 + n2 ≤ c3 := by
    rcases ho3.2 with ⟨e, h0⟩ | ⟨g, cap, cur, he, _, _, hn', _⟩
    · injection e with e1 e2 e3
      omega
    · injection he with e1 e2 e3
      omega
  have hlt : ∀ b o, A3 = some ⟨b, o, none⟩ → b < w3.heap.size := by
    rintro b o rfl
    exact (World.ownsRow.lt ho3 b rfl).2
  have hk3 : KT kc w3 := fun i hi => cell_keep hb3 (HK.out i hi)
  have HS := Lib.hid (sum256_any kc w3 A3 (n1 + n2) c3 (bs1 ++ bs2) hk3 (Cells.of_own ho3) hcap (by omega) hlt)
  have HB3 := Lib.hid hb3
  clear hb3 ho3 hg3 hl3 hk3 hlt
  have hC : (bv (sha kc (bs1 ++ bs2))).toArray.size = 32 := by simp [bv_length, sha_length]
  have hone := bv_one (sha kc (bs1 ++ bs2))
  have hz3 : (Tryz.prog.info? 22).map (·.size) = some 32 := by kernel_rfl
  rw [← hC] at hz3
  go_wp2_with fail
  refine HS.out.mono ?_
  rintro e w4 ⟨rfl, hb4⟩
  have HB4 := Lib.hid (HB3.out.trans (hb4.mono HB3.out.size))
  clear hb4 HS
  generalize hCe : (bv (sha kc (bs1 ++ bs2))).toArray = C at *
  go_wp2_with (refine wpList_alloc 22 rfl rfl (Array.replicate 32 (.int .u8 0)) (by kernel_rfl) ?_; refine Stop.mk ?_)
  refine Stop.go ?_
  refine wpList_store_new (w := w4) rfl (.tmp 5) (.tmp 11) 22 rfl rfl _ C rfl rfl hz3 (by rw [hC]; rfl) hone ?_
  go_wp2
  go_ret
  exact ⟨_, rfl, HB4.out.size, by rw [hCe]; exact Blk.new _ _ _, HB4.out.alloc HB4.out.size _⟩
end Go.Proofs.YtkgihpebghmnbaaGreatDoor

namespace Go.Proofs.YtkgihpebghmnbaaGreatDoor
open Go.RowKit Go.Proofs

set_option maxRecDepth 100000

theorem make032 : ∀ w : World, (Instr.makeSlice 30 (.int .i64 0) (.int .i64 32)).run Tryz.prog w = .ok (.slice (some ⟨w.heap.size, 0, none⟩) 0 32) (w.alloc (.cells (Array.replicate 32 (.int .u8 0)) 5)) := fun _ => by kernel_rfl

theorem array_at : ∀ (g : Nat) (w : World), (Instr.arrayAt 81 (.slice (some ⟨g, 0, none⟩) 32 32)).run Tryz.prog w = .ok (.pointer (some ⟨g, 0, none⟩)) w := fun _ _ => by kernel_rfl
theorem info_hash32 : (Tryz.prog.info? 81).map (·.size) = some 32 := by kernel_rfl
theorem load_rowh (w : World) (g : Nat) (t : TypeId) (C : Array Value) (hb : Blk w g t C) (hC : C.size = 32) : (loadVar 81 ⟨g, 0, none⟩).run Tryz.prog w = .ok (.agg C) w :=
  run_loadVar_row w g t 81 C (0, 0) _ hb Tryz.underlying81 rfl (by rw [hC]; exact info_hash32)
theorem load_ath (w : World) (g : Nat) (t : TypeId) (C : Array Value) (hb : Blk w g t C) (hC : C.size = 32) : (Instr.loadAt 81 (.pointer (some ⟨g, 0, none⟩))).run Tryz.prog w = .ok (.agg C) w := by
  simp only [Instr.loadAt, Instr.sureAddr, Sem.run_bind, Sem.run_pure, Result.andThen]
  exact load_rowh w g t C hb hC
theorem store_ath (w : World) (g : Nat) (t : TypeId) (old C : Array Value) (hb : Blk w g t old) (ho : old.size = 32) (hC : C.size = 32) (h1 : C.all (·.oneCell') = true) : (Instr.storeAt 81 (.pointer (some ⟨g, 0, none⟩)) (.agg C)).run Tryz.prog w = .ok () (w.setRow g C) := by
  simp only [Instr.storeAt, Instr.sureAddr, Sem.run_bind, Sem.run_pure, Result.andThen]
  exact run_storeVar_row w g t 81 old C hb (by rw [hC]; exact info_hash32) (by rw [ho, hC]) h1

/-- A hash behind Reset, and the double hash of what a hash has been fed. -/
def Sh.again (s : Sh) : Sh := { r := R0, x := s.x, nx := 0, len := 0 }
theorem ShOk.again (s : Sh) : ShOk s.again := ⟨rfl, by show 0 < _; decide⟩
def Sh.out2 (kc : Nat → Int) (s : Sh) : List UInt8 := (s.again.feed kc (s.out kc)).out kc

set_option maxHeartbeats 2000000 in
theorem dhash_any (kc : Nat → Int) (w : World) (p1 p2 : Addr) (s : Sh) (hk : KT kc w) (hs : ShOk s)
    (hser : ∀ w2 d, Below w.heap.size w w2 → w.heap.size < d → Dg w2 d Sh0 → Calls Tryz.prog 46 #[.iface 181 (.pointer (some ⟨d, 0, none⟩)), .pointer (some p1), .pointer (some p2)] w2 fun e w' => e = .returned .nilIface ∧ Dg w' d s ∧ Fm (M1 d) w2 w') :
    Calls Tryz.prog 45 #[.func (.func 46) #[] #[.pointer (some p1), .pointer (some p2)]] w fun e w' => e = .returned (.agg (bv (s.out2 kc)).toArray) ∧ Below w.heap.size w w' := by
  have hb1 := (Below.refl w.heap.size w).alloc (Nat.le_refl _) (.cells (Array.replicate 32 (.int .u8 0)) 81)
  have hr1 := Blk.new w 81 (Array.replicate 32 (.int .u8 0))
  have HN := Lib.hid (new_any (w.alloc (.cells (Array.replicate 32 (.int .u8 0)) 81)))
  have hgl : 3 < w.heap.size := World.block_lt_of_cell? w _ (hk 0 (by omega))
  have HSER := Lib.hid hser
  have hmk := make032
  have hat := array_at
  have HK := Lib.hid hk
  clear hk hser
  have HB := Lib.hid hb1
  have HR := Lib.hid hr1
  clear hb1 hr1
  go_enter Tryz.func45, Tryz.ntmps45
  go_wp2_with (refine wpList_alloc 81 rfl rfl (Array.replicate 32 (.int .u8 0)) (by kernel_rfl) ?_; refine Stop.mk ?_)
  refine Stop.go ?_
  generalize hw1 : w.alloc (.cells (Array.replicate 32 (.int .u8 0)) 81) = w1 at *
  have hs1 : w1.heap.size = w.heap.size + 1 := by rw [← hw1]; simp
  go_wp2_with fail
  refine HN.out.mono ?_
  rintro e w2 ⟨d, rfl, hd0, hd, hb2⟩
  have f2 : Below w.heap.size w w2 := HB.out.trans (hb2.mono (by omega))
  have hr2 := HR.out.below hb2 HR.out.lt
  have F2 := Lib.hid f2
  have HR2 := Lib.hid hr2
  have hdl := hd.1.lt
  have HC := Lib.hid (HSER.out w2 d f2 (by omega) hd)
  clear f2 hr2 hb2 hd HN HSER
  go_wp2_with fail
  refine HC.out.mono ?_
  rintro e w3 ⟨rfl, hd3, hf3⟩
  have f3 : Below w.heap.size w w3 := Below.fm F2.out hf3 F2.out.size (fun k hk hm => by have : k = d := hm; omega)
  have hr3 := HR2.out.fm hf3 (show ¬ M1 d w.heap.size by show ¬ w.heap.size = d; omega)
  have F3 := Lib.hid f3
  have HR3 := Lib.hid hr3
  have HD3 := Lib.hid hd3
  clear f3 hr3 hd3 hf3 HC
  go_upto_region 4 with fail
  have hg4 := Blk.new w3 5 (Array.replicate 32 (Value.int .u8 0))
  have hb4 := (Below.refl w3.heap.size w3).alloc (Nat.le_refl _) (.cells (Array.replicate 32 (.int .u8 0)) 5)
  have hd4 : Dg (w3.alloc (.cells (Array.replicate 32 (Value.int .u8 0)) 5)) d s := ⟨HD3.out.1.below hb4 HD3.out.1.lt, HD3.out.2⟩
  have hr4 := HR3.out.below hb4 HR3.out.lt
  have hrl := HR3.out.lt
  have hdl3 := HD3.out.1.lt
  have f4 : Below w.heap.size w (w3.alloc (.cells (Array.replicate 32 (Value.int .u8 0)) 5)) := F3.out.trans (hb4.mono F3.out.size)
  generalize hge : w3.heap.size = g at *
  generalize w3.alloc (.cells (Array.replicate 32 (.int .u8 0)) 5) = w4 at *
  have hk4 : KT kc w4 := fun i hi => cell_keep f4 (HK.out i hi)
  have HS := Lib.hid (sum_into kc w4 _ d g _ _ hd4 hk4 hs hg4 (by simp))
  have HR4 := Lib.hid hr4
  have HD4 := Lib.hid hd4
  have F4 := Lib.hid f4
  clear hg4 hb4 hd4 hk4 hr4 f4 HR3 HD3 HR2
  go_wp2_with fail
  refine HS.out.mono ?_
  rintro e w5 ⟨rfl, hg5, hf5⟩
  have hd5 : Dg w5 d s := ⟨HD4.out.1.fm hf5 (show ¬ d = g by omega), HD4.out.2⟩
  have hr5 := HR4.out.fm hf5 (show ¬ w.heap.size = g by omega)
  have f5 : Below w.heap.size w w5 := Below.fm F4.out hf5 F4.out.size (fun k hk hm => by have : k = g := hm; omega)
  have HRE := Lib.hid (reset_any w5 d s hd5)
  have HR5 := Lib.hid hr5
  have F5 := Lib.hid f5
  have HG5 := Lib.hid hg5
  clear hd5 hr5 f5 hg5 hf5 HS HD4 HR4
  go_wp2_with fail
  refine HRE.out.mono ?_
  rintro e w6 ⟨rfl, hd6, hf6⟩
  have hg6 := HG5.out.fm hf6 (show ¬ g = d by omega)
  have hr6 := HR5.out.fm hf6 (show ¬ w.heap.size = d by omega)
  have f6 : Below w.heap.size w w6 := Below.fm F5.out hf6 F5.out.size (fun k hk hm => by have : k = d := hm; omega)
  have hk6 : KT kc w6 := fun i hi => cell_keep f6 (HK.out i hi)
  have hl6 : (bv (s.out kc)).length = 32 := by rw [bv_length, Sh.out_length]
  have HW := Lib.hid (write_any kc w6 d 32 32 (some ⟨g, 0, none⟩) (s.out kc) s.again hd6 (by show 0 < _; decide) (by show 0 < _; decide) hk6 (by omega) (Cells.of_blk hg6 hl6) (fun b o e => by injection e with e; injection e with e1 e2; omega) (Nat.le_refl _) (by omega))
  have HR6 := Lib.hid hr6
  have F6 := Lib.hid f6
  have HG6 := Lib.hid hg6
  have HK6 := Lib.hid hk6
  clear hg6 hr6 f6 hk6 hd6 hf6 HRE HR5 HG5
  go_wp2_with fail
  refine HW.out.mono ?_
  rintro e w7 ⟨rfl, hd7, hf7⟩
  have hg7 := HG6.out.fm hf7 (show ¬ g = d by omega)
  have hr7 := HR6.out.fm hf7 (show ¬ w.heap.size = d by omega)
  have f7 : Below w.heap.size w w7 := Below.fm F6.out hf7 F6.out.size (fun k hk hm => by have : k = d := hm; omega)
  have hk7 : KT kc w7 := fun i hi => cell_keep f7 (HK.out i hi)
  have HS := Lib.hid (sum_into kc w7 _ d g _ _ hd7 hk7 ((ShOk.again s).feed kc _) hg7 (by simp [hl6]))
  have HR7 := Lib.hid hr7
  have F7 := Lib.hid f7
  clear hg7 hr7 f7 hk7 hd7 hf7 HW HR6 HG6
  go_wp2_with fail
  refine HS.out.mono ?_
  rintro e w8 ⟨rfl, hg8, hf8⟩
  have hr8 := HR7.out.fm hf8 (show ¬ w.heap.size = g by omega)
  have f8 : Below w.heap.size w w8 := Below.fm F7.out hf8 F7.out.size (fun k hk hm => by have : k = g := hm; omega)
  have hC : (bv (s.out2 kc)).toArray.size = 32 := by simp [Sh.out2, bv_length, Sh.out_length]
  have hone := bv_one (s.out2 kc)
  have hld := load_ath w8 g _ (bv (s.out2 kc)).toArray hg8 hC
  have hst := store_ath w8 w.heap.size _ _ (bv (s.out2 kc)).toArray hr8 (by simp) hC hone
  have hrw := cBlk_setRow hr8 (bv (s.out2 kc)).toArray
  have hlv := load_rowh (w8.setRow w.heap.size (bv (s.out2 kc)).toArray) w.heap.size _ _ hrw hC
  have f9 : Below w.heap.size w (w8.setRow w.heap.size (bv (s.out2 kc)).toArray) := Below.fm f8 (cFm_setRow (g := w.heap.size) (Fm.refl _ _) _) f8.size (fun k hk hm => by have : k = w.heap.size := hm; omega)
  have F9 := Lib.hid f9
  clear hg8 hr8 f8 f9 hf8 hrw HS HR7
  generalize hCe : (bv (s.out2 kc)).toArray = C at *
  go_wp2_with (refine wpList_load 81 (.tmp 25) rfl rfl (.agg C) (exec_load 81 (.tmp 25) rfl rfl hld) ?_; refine Stop.mk ?_)
  refine Stop.go ?_
  refine wpList_skip rfl rfl (exec_store 81 (.tmp 2) (.tmp 26) rfl rfl rfl hst) ?_
  go_wp2
  refine bodyPost_ret (v := .agg C) ?_ rfl ?_
  · exact results_cell rfl _ _ _ w.heap.size _ rfl hlv
  · exact ⟨by rw [hCe], F9.out⟩
end Go.Proofs.YtkgihpebghmnbaaGreatDoor
