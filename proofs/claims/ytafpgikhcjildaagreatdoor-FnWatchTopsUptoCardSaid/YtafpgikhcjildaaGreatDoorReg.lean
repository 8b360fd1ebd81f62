/- A region that draws its order, walked by hand: the laws that leave the frame written out. -/
import Derived.Test.YtafpgikhcjildaaGreatDoorAppend
import Derived.Deep.RegionHeld3
namespace Go.Proofs.YtafpgikhcjildaaGreatDoor
open Go.RowKit Go.Proofs

section
variable {P : Program} {ops : Array Oper} {Q : Exit → Act → World → Prop} {md : Region.Mode} {S : World → Prop}

/-- Operation number i is taken first; its value goes into slot d. -/
theorem held_take (i d : Nat) {oi : Oper} (v : Value) {fuel : Nat} {listed : Array Bool} {l : List Value} {ds : List Deferred} {w : World} (hi : ops[i]? = some oi) (hd : oi.dst = some d)
    (hs : Region.noSelect ops = true) (hf : Region.free md ops listed i = true) (hr : (Region.ready md ops listed).contains i = true)
    (hQ : ∀ c a w, Q (.panic c) (a.put oi.dst v) w → Q (.panic c) a w) (hy : YieldsIf P ops S oi v ⟨l.toArray, ds⟩) (hS : S w)
    (h : wpAnyH P md ops Q S fuel (listed.setIfInBounds i true) ⟨(l.set d v).toArray, ds⟩ w) : wpAnyH P md ops Q S (fuel + 1) listed ⟨l.toArray, ds⟩ w := by
  refine wpAnyH_take hi hs hf hr hQ hy hS ?_
  rw [hd]
  simpa [Act.put] using h

variable {w w' : World} {o : Oper} {l : List Value} {ds : List Deferred} {K : Act → World → Prop} {E : Prop}

theorem wanted_plain (hgd : o.guard = none) (ts : Array Value) : Region.wanted o (yielded ops ts) = true := by simp [Region.wanted, hgd]

theorem step_val (d : Nat) {v : Value} (hgd : o.guard = none) (hd : o.dst = some d) (hr : (execOp (Act.eval ⟨l.toArray, ds⟩) o).run P w = .ok (.value v) w')
    (h : K ⟨(l.set d v).toArray, ds⟩ w') : if Region.wanted o (yielded ops (Act.mk l.toArray ds).tmps) = true then Oper.wp P o ⟨l.toArray, ds⟩ w K Q else E := by
  rw [if_pos (wanted_plain hgd _)]
  unfold Oper.wp
  rw [hr]
  show K (Act.put _ o.dst v) w'
  rw [hd]
  simpa [Act.put] using h

theorem step_skip' (hgd : o.guard = none) (hd : o.dst = none) (hr : (execOp (Act.eval ⟨l.toArray, ds⟩) o).run P w = .ok .skip w')
    (h : K ⟨l.toArray, ds⟩ w') : if Region.wanted o (yielded ops (Act.mk l.toArray ds).tmps) = true then Oper.wp P o ⟨l.toArray, ds⟩ w K Q else E := by
  rw [if_pos (wanted_plain hgd _)]
  unfold Oper.wp
  rw [hr]
  show K (Act.put _ o.dst undef) w'
  rw [hd]
  exact h

theorem step_enter (d f : Nat) (args : Array Value) (hgd : o.guard = none) (hd : o.dst = some d) (hr : (execOp (Act.eval ⟨l.toArray, ds⟩) o).run P w = .ok (.enter f args) w)
    (h : Calls P f args w fun e w' => ∃ r, e = .returned r ∧ K ⟨(l.set d r).toArray, ds⟩ w') : if Region.wanted o (yielded ops (Act.mk l.toArray ds).tmps) = true then Oper.wp P o ⟨l.toArray, ds⟩ w K Q else E := by
  rw [if_pos (wanted_plain hgd _)]
  unfold Oper.wp
  rw [hr]
  refine Calls.mono h fun e w' hk => ?_
  obtain ⟨r, rfl, hk⟩ := hk
  show K (Act.put _ o.dst r) w'
  rw [hd]
  simpa [Act.put] using hk

theorem exec_load {ρ : Operand → Value} (ty : TypeId) (x : Operand) {p v : Value} (ho : o.op = .load ty x) (hx : ρ x = p) (hr : (Instr.loadAt ty p).run P w = .ok v w) : (execOp ρ o).run P w = .ok (.value v) w := by
  unfold execOp
  simp only [ho, hx, Sem.run_bind, Sem.run_pure, Result.andThen_ok, hr]
theorem exec_store {ρ : Operand → Value} (ty : TypeId) (x y : Operand) {p v : Value} (ho : o.op = .store ty x y) (hx : ρ x = p) (hy : ρ y = v) (hr : (Instr.storeAt ty p v).run P w = .ok () w') : (execOp ρ o).run P w = .ok .skip w' := by
  unfold execOp
  simp only [ho, hx, hy, Sem.run_bind, Sem.run_pure, Result.andThen_ok, hr]
theorem exec_build {ρ : Operand → Value} (ty : TypeId) (fs : Array (Nat × Operand)) {gs : Array (Nat × Value)} {v : Value} (ho : o.op = .build ty fs) (hg : fs.map (fun (i, x) => (i, ρ x)) = gs) (hr : (Instr.build ty gs).run P w = .ok v w) : (execOp ρ o).run P w = .ok (.value v) w := by
  unfold execOp
  subst hg
  simp only [ho, Sem.run_bind, Sem.run_pure, Result.andThen_ok, hr]
theorem exec_box {ρ : Operand → Value} (ty : TypeId) (x : Operand) {p v : Value} (ho : o.op = .box ty x) (hx : ρ x = p) (hr : (Instr.box ty p).run P w = .ok v w') : (execOp ρ o).run P w = .ok (.value v) w' := by
  unfold execOp
  simp only [ho, hx, Sem.run_bind, Sem.run_pure, Result.andThen_ok, hr]
theorem exec_bslice {ρ : Operand → Value} (ty : TypeId) (n : Nat) (fs : Array (Nat × Operand)) {gs : Array (Nat × Value)} {v : Value} (ho : o.op = .buildSlice ty n fs) (hg : fs.map (fun (i, x) => (i, ρ x)) = gs) (hr : (Instr.buildSlice ty n gs).run P w = .ok v w') : (execOp ρ o).run P w = .ok (.value v) w' := by
  unfold execOp
  subst hg
  simp only [ho, Sem.run_bind, Sem.run_pure, Result.andThen_ok, hr]

theorem step_app (d : Nat) (hgd : o.guard = none) (hd : o.dst = some d) (s x : Operand) (t : TypeId)
    (ho : o.op = .call { callee := .builtin .append, args := #[s, x], argTypes := #[t, t] })
    (base : Nat) (e : TypeId) (i : TypeInfo) (z : Value) (bytes : Nat) (ht : P.underlying t = some (.slice e)) (hi : P.info? e = some i) (hz : i.zero = some z)
    (hsize : i.size = 1) (hby : i.bytes = bytes) (hzs : z.cells.size = 1)
    (v : Value) (n : Nat) (xs : List Value) (hs : Act.eval ⟨l.toArray, ds⟩ s = v) (hown : w.ownsRow base e 1 v n xs)
    (A : Option Addr) (m c : Nat) (news : List Value) (hx : Act.eval ⟨l.toArray, ds⟩ x = .slice A m c) (hr : Cells w A m news) (h1 : ∀ u ∈ news, u.oneCell' = true)
    (hbytes : (n + m) * bytes ≤ 140737488355328) (hpos : 0 < bytes) (hbase : base ≤ w.heap.size)
    (h : ∀ v' w', w'.ownsRow base e 1 v' (n + m) (xs ++ news) → w.grownBy w' v.ownBlock → (v'.ownBlock = v.ownBlock ∨ v'.ownBlock = some w.heap.size) → K ⟨(l.set d v').toArray, ds⟩ w') :
    if Region.wanted o (yielded ops (Act.mk l.toArray ds).tmps) = true then Oper.wp P o ⟨l.toArray, ds⟩ w K Q else E := by
  refine step_append_cells w hgd s x t ho base e i z bytes ht hi hz hsize hby hzs v n xs hs hown A m c news hx hr h1 hbytes hpos hbase fun v' w' h2 h3 h4 => ?_
  rw [hd]
  simpa [Act.put] using h v' w' h2 h3 h4
end
end Go.Proofs.YtafpgikhcjildaaGreatDoor
