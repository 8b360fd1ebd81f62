/- append onto a row of the call's own, whatever the source is: nil, empty, or cells that are read. -/
import Derived.Test.YtafpgikhcjildaaGreatDoorBase
import Derived.Maps.AppendAt
import Derived.RegionTactic
import Derived.OwnWalk
namespace Go.Proofs.YtafpgikhcjildaaGreatDoor
open Go.RowKit

/-- The cells of a slice of one-cell elements. -/
def Cells (w : World) (A : Option Addr) (n : Nat) (vs : List Value) : Prop :=
  vs.length = n ∧ (0 < n → ∃ b o, A = some ⟨b, o, none⟩ ∧ ∀ j u, vs[j]? = some u → w.cell? ⟨b, o + j, none⟩ = some u)

theorem addr_add (b o j : Nat) : (⟨b, o, none⟩ : Addr).add j = ⟨b, o + j, none⟩ := by
  unfold Addr.add
  split
  · rename_i h; simp [h]
  · rfl

theorem Cells.of_rd {B : Nat} {w : World} {A : Option Addr} {n c : Nat} {bs : List UInt8} (h : Rd B w (.slice A n c) bs) : Cells w A n (bv bs) := by
  obtain ⟨A', c', e, hc, h⟩ := h
  injection e with e1 e2 e3
  subst e1; subst e2
  refine ⟨bv_length bs, fun hp => ?_⟩
  obtain ⟨b, o, ds, t, fr, rfl, hh, _, hj⟩ := h hp
  refine ⟨b, o, rfl, fun j u hu => ?_⟩
  rw [cell_of_row w b (o + j) ds t fr hh]
  rw [bv_get] at hu
  cases hb : bs[j]? with
  | none => rw [hb] at hu; cases hu
  | some x => rw [hb] at hu; simp at hu; subst hu; exact hj j x hb

theorem Cells.fm {M : Nat → Prop} {w w' : World} {A : Option Addr} {n : Nat} {vs : List Value} (h : Cells w A n vs) (hb : Fm M w w') (hM : ∀ b o, A = some ⟨b, o, none⟩ → ¬ M b) : Cells w' A n vs := by
  refine ⟨h.1, fun hp => ?_⟩
  obtain ⟨b, o, rfl, hj⟩ := h.2 hp
  refine ⟨b, o, rfl, fun j u hu => ?_⟩
  have hc := hj j u hu
  have hlt := World.block_lt_of_cell? w _ hc
  rw [World.cell?_of_block (w := w) (hb.block b hlt (hM b o rfl))]
  exact hc
theorem Cells.below {w w' : World} {A : Option Addr} {n : Nat} {vs : List Value} (h : Cells w A n vs) (hb : Below w.heap.size w w') : Cells w' A n vs :=
  h.fm (M := fun _ => False) (Fm.of_below hb) (fun _ _ _ h => h)
theorem Cells.of_own {w : World} {base : Nat} {e : TypeId} {A : Option Addr} {n c : Nat} {vs : List Value} (h : w.ownsRow base e 1 (.slice A n c) n vs) : Cells w A n vs := by
  refine ⟨by simpa using h.1, fun hp => ?_⟩
  rcases h.2 with ⟨e, h0⟩ | ⟨g, cap, cur, he, hb, hh, hn, hm, hs, ht⟩
  · omega
  · injection he with e1 e2 e3
    subst e1
    refine ⟨g, 0, rfl, fun j u hu => ?_⟩
    rw [cell_of_row w g (0 + j) cur e (0, 0) hh]
    rw [← ht, List.getElem?_take] at hu
    split at hu
    · simpa using hu
    · cases hu

theorem own_form {w : World} {base n size : Nat} {e : TypeId} {v : Value} {xs : List Value} (h : w.ownsRow base e size v n xs) : ∃ A c, v = .slice A n c := by
  rcases h.2 with ⟨rfl, rfl⟩ | ⟨g, cap, cur, rfl, _⟩
  · exact ⟨none, 0, rfl⟩
  · exact ⟨_, cap, rfl⟩
theorem Cells.one (w : World) (v : Value) (t : TypeId) : Cells (w.alloc (.cells #[v] t)) (some ⟨w.heap.size, 0, none⟩) 1 [v] := by
  refine ⟨rfl, fun _ => ⟨w.heap.size, 0, rfl, fun j u hu => ?_⟩⟩
  rw [cell_of_row _ w.heap.size (0 + j) #[v] t (0, 0) (heap_alloc_new w _)]
  match j, hu with
  | 0, hu => simpa using hu

section
variable {P : Program} (w : World)

theorem run_append_cells (base : Nat) (t ty e : TypeId) (i : TypeInfo) (z : Value) (bytes : Nat) (ht : P.underlying t = some (.slice e)) (hi : P.info? e = some i) (hz : i.zero = some z)
    (hsize : i.size = 1) (hby : i.bytes = bytes) (hzs : z.cells.size = 1)
    (v : Value) (n : Nat) (xs : List Value) (hown : w.ownsRow base e 1 v n xs)
    (A : Option Addr) (m c : Nat) (news : List Value) (hr : Cells w A m news) (h1 : ∀ u ∈ news, u.oneCell' = true)
    (hbytes : (n + m) * bytes ≤ 140737488355328) (hpos : 0 < bytes) (hbase : base ≤ w.heap.size) :
    ∃ v' w', (Builtin.append_ #[t, t] ty #[v, .slice A m c]).run P w = .ok v' w' ∧ w'.ownsRow base e 1 v' (n + m) (xs ++ news) ∧ w.grownBy w' v.ownBlock ∧
      (v'.ownBlock = v.ownBlock ∨ v'.ownBlock = some w.heap.size) := by
  have hle : n + m ≤ (n + m) * bytes := Nat.le_mul_of_pos_right _ hpos
  have h63 : n + m ≤ maxLen := by simp only [maxLen]; omega
  rcases A with _ | ad
  · have hm : m = 0 := by
      rcases Nat.eq_zero_or_pos m with h0 | h0
      · exact h0
      · obtain ⟨b, o, h, _⟩ := hr.2 h0
        cases h
    subst hm
    have hn : news = [] := List.eq_nil_of_length_eq_zero hr.1
    subst hn
    refine ⟨v, w, ?_, by simpa using hown, ⟨rfl, rfl, rfl, Nat.le_refl _, fun _ _ _ => rfl⟩, .inl rfl⟩
    rcases hown.2 with ⟨rfl, rfl⟩ | ⟨g, cap, cur, rfl, _, _, hnc, _⟩
    · simp [Builtin.append_, run_underlying ht, sizeOf, typeInfo, hi, Builtin.lenOf, Builtin.firstCells]
    · simp [Builtin.append_, run_underlying ht, sizeOf, typeInfo, hi, Builtin.lenOf, Builtin.firstCells, hnc, storeCells]
  · have hcells : ∀ j u, news[j]? = some u → w.cell? (ad.add j) = some u := by
      intro j u hu
      have hlt : j < news.length := (List.getElem?_eq_some_iff.1 hu).1
      have hl := hr.1
      obtain ⟨b, o, h, hc⟩ := hr.2 (by omega)
      injection h with h
      subst h
      rw [addr_add]
      exact hc j u hu
    obtain ⟨v', w', hrun, h2, h3, _, h5⟩ := run_append_own_at (P := P) w base t ty e i z 1 bytes ht hi hz hsize hby hzs (by omega) v n xs hown ad m c news (by simpa using hr.1) hcells h1 h63 hbytes hbase
    exact ⟨v', w', hrun, h2, h3, h5⟩

theorem wp_append_cells {o : Oper} {a : Act} {K : Act → World → Prop} {Q : Exit → Act → World → Prop} (s x : Operand) (t : TypeId)
    (ho : o.op = .call { callee := .builtin .append, args := #[s, x], argTypes := #[t, t] })
    (base : Nat) (e : TypeId) (i : TypeInfo) (z : Value) (bytes : Nat) (ht : P.underlying t = some (.slice e)) (hi : P.info? e = some i) (hz : i.zero = some z)
    (hsize : i.size = 1) (hby : i.bytes = bytes) (hzs : z.cells.size = 1)
    (v : Value) (n : Nat) (xs : List Value) (hs : a.eval s = v) (hown : w.ownsRow base e 1 v n xs)
    (A : Option Addr) (m c : Nat) (news : List Value) (hx : a.eval x = .slice A m c) (hr : Cells w A m news) (h1 : ∀ u ∈ news, u.oneCell' = true)
    (hbytes : (n + m) * bytes ≤ 140737488355328) (hpos : 0 < bytes) (hbase : base ≤ w.heap.size)
    (h : ∀ v' w', w'.ownsRow base e 1 v' (n + m) (xs ++ news) → w.grownBy w' v.ownBlock → (v'.ownBlock = v.ownBlock ∨ v'.ownBlock = some w.heap.size) → K (a.put o.dst v') w') : o.wp P a w K Q := by
  obtain ⟨v', w', hrun, h2, h3, h4⟩ := run_append_cells (P := P) w base t o.type e i z bytes ht hi hz hsize hby hzs v n xs hown A m c news hr h1 hbytes hpos hbase
  unfold Oper.wp execOp
  simp only [ho, resolve, invoke, builtin, Sem.run_bind, Sem.run_pure, Result.andThen_ok, List.map_toArray, List.map_cons, List.map_nil, hs, hx, hrun]
  exact h v' w' h2 h3 h4

theorem wpList_append_cells {ops : Array Oper} {rest : List Oper} {o : Oper} {a : Act} {Q : Exit → Act → World → Prop} (hgd : o.guard = none) (s x : Operand) (t : TypeId)
    (ho : o.op = .call { callee := .builtin .append, args := #[s, x], argTypes := #[t, t] })
    (base : Nat) (e : TypeId) (i : TypeInfo) (z : Value) (bytes : Nat) (ht : P.underlying t = some (.slice e)) (hi : P.info? e = some i) (hz : i.zero = some z)
    (hsize : i.size = 1) (hby : i.bytes = bytes) (hzs : z.cells.size = 1)
    (v : Value) (n : Nat) (xs : List Value) (hs : a.eval s = v) (hown : w.ownsRow base e 1 v n xs)
    (A : Option Addr) (m c : Nat) (news : List Value) (hx : a.eval x = .slice A m c) (hr : Cells w A m news) (h1 : ∀ u ∈ news, u.oneCell' = true)
    (hbytes : (n + m) * bytes ≤ 140737488355328) (hpos : 0 < bytes) (hbase : base ≤ w.heap.size)
    (h : ∀ v' w', w'.ownsRow base e 1 v' (n + m) (xs ++ news) → w.grownBy w' v.ownBlock → (v'.ownBlock = v.ownBlock ∨ v'.ownBlock = some w.heap.size) → wpList P ops Q rest (a.put o.dst v') w') : wpList P ops Q (o :: rest) a w :=
  wpList_plain hgd fun _ hK => wp_append_cells w s x t ho base e i z bytes ht hi hz hsize hby hzs v n xs hs hown A m c news hx hr h1 hbytes hpos hbase fun v' w' h2 h3 h4 => hK _ _ (h v' w' h2 h3 h4)

theorem step_append_cells {ops : Array Oper} {o : Oper} {a : Act} {K : Act → World → Prop} {Q : Exit → Act → World → Prop} {E : Prop} (hgd : o.guard = none) (s x : Operand) (t : TypeId)
    (ho : o.op = .call { callee := .builtin .append, args := #[s, x], argTypes := #[t, t] })
    (base : Nat) (e : TypeId) (i : TypeInfo) (z : Value) (bytes : Nat) (ht : P.underlying t = some (.slice e)) (hi : P.info? e = some i) (hz : i.zero = some z)
    (hsize : i.size = 1) (hby : i.bytes = bytes) (hzs : z.cells.size = 1)
    (v : Value) (n : Nat) (xs : List Value) (hs : a.eval s = v) (hown : w.ownsRow base e 1 v n xs)
    (A : Option Addr) (m c : Nat) (news : List Value) (hx : a.eval x = .slice A m c) (hr : Cells w A m news) (h1 : ∀ u ∈ news, u.oneCell' = true)
    (hbytes : (n + m) * bytes ≤ 140737488355328) (hpos : 0 < bytes) (hbase : base ≤ w.heap.size)
    (h : ∀ v' w', w'.ownsRow base e 1 v' (n + m) (xs ++ news) → w.grownBy w' v.ownBlock → (v'.ownBlock = v.ownBlock ∨ v'.ownBlock = some w.heap.size) → K (a.put o.dst v') w') :
    if Region.wanted o (yielded ops a.tmps) = true then Oper.wp P o a w K Q else E := by
  have hw : Region.wanted o (yielded ops a.tmps) = true := by simp [Region.wanted, hgd]
  rw [if_pos hw]
  exact wp_append_cells w s x t ho base e i z bytes ht hi hz hsize hby hzs v n xs hs hown A m c news hx hr h1 hbytes hpos hbase h
end
end Go.Proofs.YtafpgikhcjildaaGreatDoor
