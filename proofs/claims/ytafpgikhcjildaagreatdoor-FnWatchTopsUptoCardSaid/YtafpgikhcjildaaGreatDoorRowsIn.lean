/- A list of lists of bytes that comes in, as the walks read it. -/
import Derived.Test.YtafpgikhcjildaaGreatDoorAppend
import Derived.Test.YtafpgikhcjildaaGreatDoorProg
import Derived.Deep.Matrix
namespace Go.Proofs.YtafpgikhcjildaaGreatDoor
open Go.RowKit Go.Proofs Go.Deep Go.ChangeShapes Go.WideShapes

set_option maxRecDepth 100000

theorem cell_form {w : World} {a : Addr} {u : Value} (h : w.cell? a = some u) : ∃ ds t fr, w.heap[a.block]? = some (.cells ds t fr) ∧ a.spot = none ∧ ds[a.off]? = some u := by
  unfold World.cell? at h
  split at h
  · rename_i ds t fr hh
    split at h
    · cases h
    · rename_i hs
      exact ⟨ds, t, fr, hh, by simpa using hs, h⟩
  · cases h

theorem addr_spot {a : Addr} (h : a.spot = none) : a = ⟨a.block, a.off, none⟩ := by cases a; simp at h; subst h; rfl
theorem add_spot {a : Addr} (r : Nat) (h : (a.add 0).spot = none) : a.add r = ⟨a.block, a.off + r, none⟩ := by
  have h0 : a.add 0 = a := by unfold Addr.add; simp
  rw [h0] at h
  rw [addr_spot h]
  exact addr_add a.block a.off r

/-- One row of bytes. -/
theorem row_read {W : World} {A : Option Addr} {L C : Nat} {zs : List Int} (hl : L ≤ C) (hz : zs.length = C) (hw : ∀ n ∈ zs, (Lit.int .u8 n).wf = true) (h : ∀ a', A = some a' → ∀ c, c < C → W.cell? (a'.add c) = some (.int .u8 (zs.getD c 0))) (hn : A = none → C = 0) :
    ∃ xs : List UInt8, xs.length = L ∧ Rd W.heap.size W (.slice A L C) xs := by
  obtain ⟨xs, hxs⟩ : ∃ xs : List UInt8, xs = (zs.take L).map fun z => UInt8.ofNat z.toNat := ⟨_, rfl⟩
  have hlen : xs.length = L := by rw [hxs]; simp; omega
  refine ⟨xs, hlen, A, C, by rw [hlen], by omega, fun hp => ?_⟩
  cases A with
  | none => have := hn rfl; omega
  | some a =>
    have h0 := h a rfl 0 (by omega)
    obtain ⟨ds, t, fr, hh, hs, -⟩ := cell_form h0
    have e0 : a.add 0 = a := by unfold Addr.add; simp
    rw [e0] at hh
    refine ⟨a.block, a.off, ds, t, fr, by rw [← addr_spot (by rw [← e0]; exact hs)], hh, .inl (Array.getElem?_eq_some_iff.1 hh).1, fun j u hj => ?_⟩
    have hjl : j < L := by rw [← hlen]; exact (List.getElem?_eq_some_iff.1 hj).1
    have hc := h a rfl j (by omega)
    rw [add_spot j hs] at hc
    obtain ⟨ds', t', fr', hh', -, hd⟩ := cell_form hc
    rw [hh] at hh'
    injection hh' with hh'
    injection hh' with e1 _ _
    subst e1
    simp only at hd
    rw [hd]
    have hzj : zs[j]? = some (zs.getD j 0) := by rw [List.getD_eq_getElem?_getD, List.getElem?_eq_getElem (by omega)]; rfl
    have hu : u = UInt8.ofNat (zs.getD j 0).toNat := by
      rw [hxs, List.getElem?_map, List.getElem?_take, if_pos hjl, hzj] at hj
      simpa using hj.symm
    have hwf := hw (zs.getD j 0) (List.mem_of_getElem? hzj)
    have e1 : IntKind.u8.min = 0 := rfl
    have e2 : IntKind.u8.max = 255 := rfl
    simp [Lit.wf, e1, e2] at hwf
    rw [hu]
    congr 2
    simp
    omega

theorem rows_read {H : Type} {enc : TypeId × Value → H} {W : World} {fuel : Nat} {cs : List Value} {x : DataW H × List MemPlace} (h : DataW.trod enc Tryz.prog W 0 (fun _ => true) true fuel 22 cs = some x) :
    ∃ n c A vs xss, cs = [.slice A n c] ∧ n ≤ c ∧ Cells W A n vs ∧ RdL W.heap.size W vs xss ∧
      ((x.1 = .nil ∧ xss = []) ∨ ∃ es rest, x.1 = .slice es rest ∧ es.length = xss.length ∧ ∀ (i : Nat) (e : DataW H) (xs : List UInt8), es[i]? = some e → xss[i]? = some xs → (e = .nil ∧ xs = []) ∨ ∃ ls rs, e = .slice ls rs ∧ ls.length = xs.length) := by
  rcases open_int_rows Tryz.underlying22 Tryz.underlying24 Tryz.underlying5 (by kernel_rfl) (by kernel_rfl) h with ⟨rfl, rfl⟩ | ⟨a, len, cap, A, L, C, Z, rfl, hb, hl, hm, rfl, hr⟩
  · exact ⟨0, 0, none, [], [], rfl, Nat.le_refl _, ⟨rfl, fun h => absurd h (by omega)⟩, RdL.nil, .inl ⟨rfl, rfl⟩⟩
  · have hx : ∀ r, r < cap → ∃ xs : List UInt8, xs.length = L r ∧ Rd W.heap.size W (.slice (A r) (L r) (C r)) xs := fun r hr0 => by
      obtain ⟨r1, r2, r3, r4, r5, r6, r7⟩ := hr r hr0
      exact row_read r2 r4 r5 (fun a' ha => (r7 a' ha).2) r6
    obtain ⟨X, hX⟩ : ∃ X : Nat → List UInt8, ∀ r, r < cap → (X r).length = L r ∧ Rd W.heap.size W (.slice (A r) (L r) (C r)) (X r) := choose_lt hx
    refine ⟨len, cap, some a, (List.range len).map fun r => .slice (A r) (L r) (C r), (List.range len).map X, rfl, hl, ⟨by simp, fun hp => ?_⟩, ⟨by simp, fun i v xs hv hxs => ?_⟩, .inr ⟨_, _, rfl, by simp, fun i e xs he hxs => ?_⟩⟩
    · have h0 := (hr 0 (by omega)).1
      obtain ⟨-, -, -, -, hs, -⟩ := cell_form h0
      have e0 : a.add 0 = a := by unfold Addr.add; simp
      refine ⟨a.block, a.off, by rw [← addr_spot (by rw [← e0]; exact hs)], fun j u hj => ?_⟩
      rw [List.getElem?_map] at hj
      by_cases hjl : j < len
      · rw [List.getElem?_range hjl] at hj
        simp at hj
        subst hj
        have := (hr j (by omega)).1
        rwa [add_spot j hs] at this
      · rw [List.getElem?_eq_none (by simp; omega)] at hj
        cases hj
    · rw [List.getElem?_map] at hv hxs
      by_cases hil : i < len
      · rw [List.getElem?_range hil] at hv hxs
        simp at hv hxs
        subst hv; subst hxs
        exact (hX i (by omega)).2
      · rw [List.getElem?_eq_none (by simp; omega)] at hv
        cases hv
    · rw [List.getElem?_map] at he hxs
      by_cases hil : i < len
      · rw [List.getElem?_range hil] at he hxs
        simp at he hxs
        subst he; subst hxs
        have hXi := (hX i (by omega)).1
        unfold intRow
        cases hA : A i with
        | none =>
          have hc := (hr i (by omega)).2.2.2.2.2.1 hA
          have hlc := (hr i (by omega)).2.1
          exact .inl ⟨rfl, List.eq_nil_of_length_eq_zero (by omega)⟩
        | some a' =>
          have h4 := (hr i (by omega)).2.2.2.1
          have hlc := (hr i (by omega)).2.1
          exact .inr ⟨_, _, rfl, by simp [lits, hXi]; omega⟩
      · rw [List.getElem?_eq_none (by simp; omega)] at he
        cases he
end Go.Proofs.YtafpgikhcjildaaGreatDoor
