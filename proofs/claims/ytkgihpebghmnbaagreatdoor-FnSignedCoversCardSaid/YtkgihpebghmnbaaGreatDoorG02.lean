/- Words of memory: what a call may change, a block known whole, bytes and lists of bytes that are read. append onto a row of the call's own, whatever the source is: nil, empty, or cells that are read. Rotations, as the code reckons them. The stack's methods, walked. The stack's methods, walked, second part. -/
import Derived.WalkKit
import Derived.Below
import Derived.Laws.OwnMore
import Derived.Laws.Rows
import Derived.Deep.AppendLies
import Derived.Deep.Draws
import Derived.Maps.AppendAt
import Derived.RegionTactic
import Derived.OwnWalk
import Derived.Test.YtkgihpebghmnbaaGreatDoorProg
import Derived.WalkSpells
import Derived.WalkLawsBesides
import Derived.BigQuiet
import Derived.Deep.QuietTactic
import Derived.Outline
import Derived.StillTailTactics
import Derived.Lib.Hide
import Derived.Deep.RegionHeld
import Derived.WalkSmall
namespace Go.Proofs.YtkgihpebghmnbaaGreatDoor
open Go.RowKit

/-- A goal behind a name: the walk stops there. -/
def Stop (p : Prop) : Prop := p
theorem Stop.mk {p : Prop} (h : Stop p) : p := h
theorem Stop.go {p : Prop} (h : p) : Stop p := h

/-- From w to w' nothing has turned but blocks that M lets turn, and new ones. -/
structure Fm (M : Nat → Prop) (w w' : World) : Prop where
  os : w'.os = w.os
  tape : w'.tape = w.tape
  output : w'.output = w.output
  size : w.heap.size ≤ w'.heap.size
  block : ∀ k, k < w.heap.size → ¬ M k → w'.heap[k]? = w.heap[k]?

/-- Block g is known whole. -/
def Blk (w : World) (g : Nat) (t : TypeId) (cs : Array Value) : Prop := w.heap[g]? = some (.cells cs t (0, 0))

/-- The blocks that a method of the machine may turn: the machine's own one, and the row of its stack. -/
def M2 (g : Nat) (v : Value) (k : Nat) : Prop := k = g ∨ v.ownBlock = some k
def M1 (g : Nat) (k : Nat) : Prop := k = g

section
variable {B B' : Nat} {M M' : Nat → Prop} {w w' w'' : World} {g : Nat} {t : TypeId} {cs : Array Value}

theorem Fm.refl (M : Nat → Prop) (w : World) : Fm M w w := ⟨rfl, rfl, rfl, Nat.le_refl _, fun _ _ _ => rfl⟩
theorem Fm.trans' (h : Fm M w w') (k : Fm M' w' w'') (hM : ∀ j, j < w.heap.size → M' j → M j) : Fm M w w'' :=
  ⟨k.os.trans h.os, k.tape.trans h.tape, k.output.trans h.output, Nat.le_trans h.size k.size,
    fun i hi hn => (k.block i (Nat.lt_of_lt_of_le hi h.size) (fun hm => hn (hM i hi hm))).trans (h.block i hi hn)⟩
theorem Fm.trans (h : Fm M w w') (k : Fm M w' w'') : Fm M w w'' := h.trans' k fun _ _ hm => hm
theorem Fm.mono (h : Fm M w w') (hM : ∀ j, j < w.heap.size → M j → M' j) : Fm M' w w' :=
  ⟨h.os, h.tape, h.output, h.size, fun k hk hn => h.block k hk (fun hm => hn (hM k hk hm))⟩
theorem Fm.of_below (h : Below w.heap.size w w') : Fm M w w' := ⟨h.os, h.tape, h.output, h.size, fun k hk _ => h.block k hk⟩
theorem Fm.toBelow (h : Fm M w w') (hB : B ≤ w.heap.size) (hM : ∀ k, k < B → ¬ M k) : Below B w w' :=
  ⟨h.os, h.tape, h.output, h.size, fun k hk => h.block k (by omega) (hM k hk)⟩
theorem Fm.drew (h : Fm M w w') : Fm M w w'.drew := ⟨h.os, h.tape, h.output, h.size, h.block⟩
theorem Fm.drewN (h : Fm M w w') (n : Nat) : Fm M w (w'.drewN n) := ⟨h.os, h.tape, h.output, h.size, h.block⟩
theorem Fm.below (h : Fm M w w') (k : Below w'.heap.size w' w'') : Fm M w w'' := h.trans (Fm.of_below k)
theorem Fm.alloc (h : Fm M w w') (o : Obj) : Fm M w (w'.alloc o) := h.below ((Below.refl _ _).alloc (Nat.le_refl _) o)
theorem Fm.setCell (h : Fm M w w') {p : Addr} (hp : p.block < w.heap.size → M p.block) (u : Value) : Fm M w (w'.setCell p u) :=
  ⟨h.os, h.tape, h.output, by simpa [World.setCell] using h.size, fun k hk hn => by
    rw [Below.heap_setCell _ _ _ _ (by rintro rfl; exact hn (hp hk))]
    exact h.block k hk hn⟩
theorem Fm.set1 (h : Fm (M1 g) w w') (o : Nat) (u : Value) : Fm (M1 g) w (w'.setCell ⟨g, o, none⟩ u) := Fm.setCell (M := M1 g) (p := ⟨g, o, none⟩) h (fun _ => rfl) u
theorem Fm.set2 {v : Value} (h : Fm (M2 g v) w w') (o : Nat) (u : Value) : Fm (M2 g v) w (w'.setCell ⟨g, o, none⟩ u) := Fm.setCell (M := M2 g v) (p := ⟨g, o, none⟩) h (fun _ => .inl rfl) u
theorem Fm.one {v : Value} (h : Fm (M1 g) w w') : Fm (M2 g v) w w' := h.mono fun _ _ h => .inl h
theorem Fm.grown {v : Value} (h : Fm M w w') (hg : w'.grownBy w'' v.ownBlock) (hv : ∀ k, k < w.heap.size → v.ownBlock = some k → M k) : Fm M w w'' :=
  ⟨hg.os.trans h.os, hg.tape.trans h.tape, hg.output.trans h.output, Nat.le_trans h.size hg.size, fun k hk hn =>
    (hg.block k (Nat.lt_of_lt_of_le hk h.size) (fun e => hn (hv k hk e.symm))).trans (h.block k hk hn)⟩

theorem Blk.lt (h : Blk w g t cs) : g < w.heap.size := (Array.getElem?_eq_some_iff.1 h).1
theorem Blk.cell (h : Blk w g t cs) (i : Nat) : w.cell? ⟨g, i, none⟩ = cs[i]? := cell_of_row w g i cs t (0, 0) h
theorem Blk.frozen (h : Blk w g t cs) (i : Nat) : w.frozen? ⟨g, i, none⟩ = false := by
  unfold Blk at h
  simp [World.frozen?, h]
theorem Blk.new (w : World) (t : TypeId) (cs : Array Value) : Blk (w.alloc (.cells cs t)) w.heap.size t cs := heap_alloc_new w _
theorem Blk.drew (h : Blk w g t cs) : Blk w.drew g t cs := h
theorem Blk.drewN (h : Blk w g t cs) (n : Nat) : Blk (w.drewN n) g t cs := h
theorem Blk.alloc (h : Blk w g t cs) (o : Obj) : Blk (w.alloc o) g t cs := (Below.heap_alloc w o g h.lt).trans h
theorem Blk.set_ (h : Blk w g t cs) (i : Nat) (u : Value) : Blk (w.setCell ⟨g, i, none⟩ u) g t (cs.setIfInBounds i u) := by
  unfold Blk at h ⊢
  simp [World.setCell, Array.getElem?_modify, h]
theorem Blk.far (h : Blk w g t cs) {p : Addr} (hp : g ≠ p.block) (u : Value) : Blk (w.setCell p u) g t cs := (Below.heap_setCell w p u g hp).trans h
theorem Blk.below (h : Blk w g t cs) (hb : Below B w w') (hg : g < B) : Blk w' g t cs := (hb.block g hg).trans h
theorem Blk.fm (h : Blk w g t cs) (hb : Fm M w w') (hg : ¬ M g) : Blk w' g t cs := (hb.block g h.lt hg).trans h
theorem Blk.grown {row : Option Nat} (h : Blk w g t cs) (hb : w.grownBy w' row) (hg : some g ≠ row) : Blk w' g t cs := (hb.block g h.lt hg).trans h
theorem Blk.ne_ {g' : Nat} {t' : TypeId} {cs' : Array Value} (h : Blk w g t cs) (h' : Blk w g' t' cs') (hne : t ≠ t') : g ≠ g' := by
  rintro rfl
  unfold Blk at h h'
  rw [h] at h'
  injection h' with h'
  injection h' with _ ht
  exact hne ht
theorem own_blk_ne {base : Nat} {e : TypeId} {size n : Nat} {v : Value} {xs : List Value} (h : w.ownsRow base e size v n xs) (hg : Blk w g t cs) (hne : e ≠ t) : v.ownBlock ≠ some g := by
  rcases h.2 with ⟨rfl, _⟩ | ⟨g', cap, cur, rfl, _, hh, _⟩
  · simp [Value.ownBlock]
  · intro he
    have : g' = g := by simpa [Value.ownBlock] using he
    subst this
    exact Blk.ne_ (t := e) hh hg hne rfl
theorem own_fm {base : Nat} {e : TypeId} {size n : Nat} {v : Value} {xs : List Value} (h : w.ownsRow base e size v n xs) (hb : Fm M w w') (hv : ∀ k, v.ownBlock = some k → ¬ M k) : w'.ownsRow base e size v n xs := by
  refine ⟨h.1, ?_⟩
  rcases h.2 with hn | ⟨g, cap, cur, rfl, hbg, hgg, rest⟩
  · exact .inl hn
  · exact .inr ⟨g, cap, cur, rfl, hbg, (hb.block g (Array.getElem?_eq_some_iff.1 hgg).1 (hv g rfl)).trans hgg, rest⟩
theorem own_below {base : Nat} {e : TypeId} {size n : Nat} {v : Value} {xs : List Value} (h : w.ownsRow base e size v n xs) (hb : Below w.heap.size w w') : w'.ownsRow base e size v n xs :=
  own_fm (M := fun _ => False) h (Fm.of_below hb) (fun _ _ h => h)
theorem own_set {base : Nat} {e : TypeId} {size n : Nat} {v : Value} {xs : List Value} (h : w.ownsRow base e size v n xs) {p : Addr} (hb : Blk w p.block t cs) (hne : e ≠ t) (u : Value) :
    (w.setCell p u).ownsRow base e size v n xs := by
  refine ⟨h.1, ?_⟩
  rcases h.2 with hn | ⟨g, cap, cur, rfl, hbg, hgg, rest⟩
  · exact .inl hn
  · refine .inr ⟨g, cap, cur, rfl, hbg, ?_, rest⟩
    rw [Below.heap_setCell _ _ _ _ ?_]
    · exact hgg
    · exact Blk.ne_ (t := e) hgg hb hne
theorem own_lower {base base' : Nat} {e : TypeId} {size n : Nat} {v : Value} {xs : List Value} (h : w.ownsRow base e size v n xs) (hb : base' ≤ base) : w.ownsRow base' e size v n xs := by
  refine ⟨h.1, ?_⟩
  rcases h.2 with hn | ⟨g, cap, cur, rfl, hbg, rest⟩
  · exact .inl hn
  · exact .inr ⟨g, cap, cur, rfl, by omega, rest⟩

/-- Bytes as values. -/
def bv (bs : List UInt8) : List Value := bs.map fun b => .int .u8 b.toNat
theorem bv_length (bs : List UInt8) : (bv bs).length = bs.length := by simp [bv]
theorem bv_append (xs bs : List UInt8) : bv (xs ++ bs) = bv xs ++ bv bs := by simp [bv]
theorem bv_get (bs : List UInt8) (j : Nat) : (bv bs)[j]? = bs[j]?.map fun b => .int .u8 b.toNat := by simp [bv]

/-- The types of the blocks that the machine's methods turn. -/
def Sx : List TypeId := [111, 30, 104
  ]

/-- The slice value v reads as the bytes bs: below block B, or in a block that is none of the machine's. -/
def Rd (B : Nat) (w : World) (v : Value) (bs : List UInt8) : Prop :=
  ∃ A c, v = .slice A bs.length c ∧ bs.length ≤ c ∧
    (0 < bs.length → ∃ b o ds t fr, A = some ⟨b, o, none⟩ ∧ w.heap[b]? = some (.cells ds t fr) ∧ (b < B ∨ t ∉ Sx) ∧ ∀ j u, bs[j]? = some u → ds[o + j]? = some (.int .u8 u.toNat))

/-- What may turn lies from block B on, and is the machine's. -/
def Its (B : Nat) (w : World) (M : Nat → Prop) : Prop := ∀ k, k < w.heap.size → M k → B ≤ k ∧ ∃ cs t fr, w.heap[k]? = some (.cells cs t fr) ∧ t ∈ Sx

theorem Its.m2 {v : Value} {base e size n : Nat} {xs : List Value} (hg : Blk w g t cs) (ht : t ∈ Sx) (hB : B ≤ g) (ho : w.ownsRow base e size v n xs) (he : e ∈ Sx) (hb : B ≤ base) : Its B w (M2 g v) := by
  rintro k hk (rfl | hv)
  · exact ⟨hB, cs, t, (0, 0), hg, ht⟩
  · rcases ho.2 with ⟨rfl, _⟩ | ⟨g', cap, cur, rfl, hbg, hgg, _⟩
    · simp [Value.ownBlock] at hv
    · have : g' = k := by simpa [Value.ownBlock] using hv
      subst this
      exact ⟨by omega, cur, e, (0, 0), hgg, he⟩
theorem Its.m1 (hg : Blk w g t cs) (ht : t ∈ Sx) (hB : B ≤ g) : Its B w (M1 g) := by
  rintro k hk rfl
  exact ⟨hB, cs, t, (0, 0), hg, ht⟩
theorem Rd.fm {v : Value} {bs : List UInt8} (h : Rd B w v bs) (hb : Fm M w w') (hM : Its B w M) : Rd B w' v bs := by
  obtain ⟨A, c, rfl, hc, h⟩ := h
  refine ⟨A, c, rfl, hc, fun hp => ?_⟩
  obtain ⟨b, o, ds, t, fr, rfl, hh, ht, hj⟩ := h hp
  refine ⟨b, o, ds, t, fr, rfl, ?_, ht, hj⟩
  rw [hb.block b (Array.getElem?_eq_some_iff.1 hh).1 ?_]
  · exact hh
  · intro hm
    obtain ⟨hB, cs, t', fr', hh', ht'⟩ := hM b (Array.getElem?_eq_some_iff.1 hh).1 hm
    rcases ht with ht | ht
    · omega
    · rw [hh] at hh'
      injection hh' with hh'
      injection hh' with _ e
      exact ht (e ▸ ht')
theorem Rd.below {v : Value} {bs : List UInt8} (h : Rd B w v bs) (hb : Below w.heap.size w w') : Rd B w' v bs :=
  h.fm (M := fun _ => False) (Fm.of_below hb) (fun _ _ h => h.elim)
theorem Rd.cell {A : Option Addr} {n c : Nat} {bs : List UInt8} (h : Rd B w (.slice A n c) bs) {j : Nat} (hj : j < n) :
    ∃ b o, A = some ⟨b, o, none⟩ ∧ w.cell? ⟨b, o + j, none⟩ = some (.int .u8 (bs.getD j 0).toNat) := by
  obtain ⟨A', c', e, hc, h⟩ := h
  injection e with e1 e2 e3
  subst e1; subst e2; subst e3
  obtain ⟨b, o, ds, t, fr, rfl, hh, _, hj'⟩ := h (by omega)
  refine ⟨b, o, rfl, ?_⟩
  rw [cell_of_row w b (o + j) ds t fr hh]
  rw [hj' j (bs.getD j 0) (by simp [List.getD_eq_getElem?_getD, List.getElem?_eq_getElem hj])]
theorem Rd.len {A : Option Addr} {n c : Nat} {bs : List UInt8} (h : Rd B w (.slice A n c) bs) : n = bs.length ∧ n ≤ c := by
  obtain ⟨A', c', e, hc, _⟩ := h
  injection e with e1 e2 e3
  subst e2; subst e3
  exact ⟨rfl, hc⟩
theorem Rd.nil (B : Nat) (w : World) (A : Option Addr) (c : Nat) : Rd B w (.slice A 0 c) [] := ⟨A, c, rfl, Nat.zero_le _, fun h => absurd h (by simp)⟩
theorem Rd.slice {v : Value} {bs : List UInt8} (h : Rd B w v bs) : ∃ A c, v = .slice A bs.length c ∧ bs.length ≤ c := by
  obtain ⟨A, c, e, hc, _⟩ := h
  exact ⟨A, c, e, hc⟩
/-- A part of it. -/
theorem Rd.part {b o n c : Nat} {bs : List UInt8} (h : Rd B w (.slice (some ⟨b, o, none⟩) n c) bs) (i m c' : Nat) (hm : i + m ≤ n) (hc : m ≤ c') :
    Rd B w (.slice (some ⟨b, o + i, none⟩) m c') ((bs.drop i).take m) := by
  obtain ⟨A', c0, e, hc0, h⟩ := h
  injection e with e1 e2 e3
  subst e2
  have hl : ((bs.drop i).take m).length = m := by simp; omega
  refine ⟨some ⟨b, o + i, none⟩, c', by rw [hl], by omega, fun hp => ?_⟩
  obtain ⟨b', o', ds, t, fr, e', hh, ht, hj⟩ := h (by omega)
  rw [← e1] at e'
  injection e' with e'
  injection e' with e2 e3
  subst e2; subst e3
  refine ⟨b, o + i, ds, t, fr, rfl, hh, ht, fun j u hu => ?_⟩
  rw [List.getElem?_take] at hu
  split at hu
  · rw [List.getElem?_drop] at hu
    rw [Nat.add_assoc]
    exact hj _ _ hu
  · cases hu
/-- A row of the call's own reads. -/
theorem Rd.of_own {base : Nat} {e : TypeId} {v : Value} {bs : List UInt8} (h : w.ownsRow base e 1 v bs.length (bv bs)) (he : e ∉ Sx) : Rd B w v bs := by
  rcases h.2 with ⟨rfl, h0⟩ | ⟨g, cap, cur, rfl, hbg, hgg, hn, hm, hs, ht⟩
  · have : bs = [] := List.eq_nil_of_length_eq_zero h0
    subst this
    exact Rd.nil _ _ _ _
  · refine ⟨_, cap, rfl, hn, fun hp => ⟨g, 0, cur, e, (0, 0), rfl, hgg, .inr he, fun j u hu => ?_⟩⟩
    have h2 : (bv bs)[j]? = some (.int .u8 u.toNat) := by rw [bv_get, hu]; rfl
    rw [← ht, List.getElem?_take] at h2
    split at h2
    · simpa using h2
    · cases h2

/-- A list of lists of bytes: the row's cells, each a slice that reads. -/
def RdL (B : Nat) (w : World) (vs : List Value) (xss : List (List UInt8)) : Prop := vs.length = xss.length ∧ ∀ (i : Nat) (v : Value) (xs : List UInt8), vs[i]? = some v → xss[i]? = some xs → Rd B w v xs
theorem RdL.fm {vs : List Value} {xss : List (List UInt8)} (h : RdL B w vs xss) (hb : Fm M w w') (hM : Its B w M) : RdL B w' vs xss := ⟨h.1, fun i v xs h1 h2 => (h.2 i v xs h1 h2).fm hb hM⟩
theorem RdL.below {vs : List Value} {xss : List (List UInt8)} (h : RdL B w vs xss) (hb : Below w.heap.size w w') : RdL B w' vs xss := ⟨h.1, fun i v xs h1 h2 => (h.2 i v xs h1 h2).below hb⟩
theorem RdL.nil : RdL B w [] [] := ⟨rfl, fun i v xs h _ => by simp at h⟩
theorem RdL.snoc {vs : List Value} {xss : List (List UInt8)} {v : Value} {xs : List UInt8} (h : RdL B w vs xss) (hv : Rd B w v xs) : RdL B w (vs ++ [v]) (xss ++ [xs]) := by
  refine ⟨by simp [h.1], fun i u ys h1 h2 => ?_⟩
  rw [List.getElem?_append] at h1 h2
  by_cases hi : i < vs.length
  · rw [if_pos hi] at h1
    rw [if_pos (h.1 ▸ hi)] at h2
    exact h.2 i u ys h1 h2
  · rw [if_neg hi] at h1
    rw [if_neg (h.1 ▸ hi)] at h2
    have h0 : i - vs.length = 0 := by
      rcases Nat.eq_zero_or_pos (i - vs.length) with e | e
      · exact e
      · rw [List.getElem?_eq_none (by simp; omega)] at h1; cases h1
    rw [h0] at h1
    rw [← h.1, h0] at h2
    simp at h1 h2
    subst h1; subst h2
    exact hv
theorem RdL.init {vs : List Value} {xss : List (List UInt8)} {v : Value} {xs : List UInt8} (h : RdL B w (vs ++ [v]) (xss ++ [xs])) : RdL B w vs xss ∧ Rd B w v xs := by
  have hl : vs.length = xss.length := by have := h.1; simpa using this
  refine ⟨⟨hl, fun i u ys h1 h2 => h.2 i u ys ?_ ?_⟩, h.2 vs.length v xs (by simp) (by simp [hl])⟩
  · rw [List.getElem?_append_left (by have := List.getElem?_eq_some_iff.1 h1; exact this.1)]; exact h1
  · rw [List.getElem?_append_left (by have := List.getElem?_eq_some_iff.1 h2; exact this.1)]; exact h2
end
end Go.Proofs.YtkgihpebghmnbaaGreatDoor

namespace Go.Proofs.YtkgihpebghmnbaaGreatDoor
open Go.RowKit

/-- The cells of a slice of one-cell elements. -/
def Cells (w : World) (A : Option Addr) (n : Nat) (vs : List Value) : Prop :=
  vs.length = n ∧ (0 < n → ∃ b o, A = some ⟨b, o, none⟩ ∧ ∀ j u, vs[j]? = some u → w.cell? ⟨b, o + j, none⟩ = some u)

theorem addr_add (b o j : Nat) : (⟨b, o, none⟩ : Addr).add j = ⟨b, o + j, none⟩ := by
  unfold Addr.add
  split
  · rename_i h; simp 
  · rfl

theorem Cells.of_rd {B : Nat} {w : World} {A : Option Addr} {n c : Nat} {bs : List UInt8} (h : Rd B w (.slice A n c) bs) : Cells w A n (bv bs) := by
  obtain ⟨A', c', e, hc, h⟩ := h
  injection e with e1 e2 e3
  subst e1; subst e2
  refine ⟨bv_length bs, fun hp => ?_⟩
  obtain ⟨b, o, ds, t, fr, rfl, hh, _, hj⟩ := h hp
  refine ⟨b, o, rfl, fun j u hu => ?_⟩
  rw [cell_of_row w b (o + j) ds t fr hh]
  rw [bv_get] at hu
  cases hb : bs[j]? with
  | none => rw [hb] at hu; cases hu
  | some x => rw [hb] at hu; simp at hu; subst hu; exact hj j x hb

theorem Cells.fm {M : Nat → Prop} {w w' : World} {A : Option Addr} {n : Nat} {vs : List Value} (h : Cells w A n vs) (hb : Fm M w w') (hM : ∀ b o, A = some ⟨b, o, none⟩ → ¬ M b) : Cells w' A n vs := by
  refine ⟨h.1, fun hp => ?_⟩
  obtain ⟨b, o, rfl, hj⟩ := h.2 hp
  refine ⟨b, o, rfl, fun j u hu => ?_⟩
  have hc := hj j u hu
  have hlt := World.block_lt_of_cell? w _ hc
  rw [World.cell?_of_block (w := w) (hb.block b hlt (hM b o rfl))]
  exact hc
theorem Cells.below {w w' : World} {A : Option Addr} {n : Nat} {vs : List Value} (h : Cells w A n vs) (hb : Below w.heap.size w w') : Cells w' A n vs :=
  h.fm (M := fun _ => False) (Fm.of_below hb) (fun _ _ _ h => h)
theorem Cells.of_own {w : World} {base : Nat} {e : TypeId} {A : Option Addr} {n c : Nat} {vs : List Value} (h : w.ownsRow base e 1 (.slice A n c) n vs) : Cells w A n vs := by
  refine ⟨by simpa using h.1, fun hp => ?_⟩
  rcases h.2 with ⟨e, h0⟩ | ⟨g, cap, cur, he, hb, hh, hn, hm, hs, ht⟩
  · omega
  · injection he with e1 e2 e3
    subst e1
    refine ⟨g, 0, rfl, fun j u hu => ?_⟩
    rw [cell_of_row w g (0 + j) cur e (0, 0) hh]
    rw [← ht, List.getElem?_take] at hu
    split at hu
    · simpa using hu
    · cases hu

theorem own_form {w : World} {base n size : Nat} {e : TypeId} {v : Value} {xs : List Value} (h : w.ownsRow base e size v n xs) : ∃ A c, v = .slice A n c := by
  rcases h.2 with ⟨rfl, rfl⟩ | ⟨g, cap, cur, rfl, _⟩
  · exact ⟨none, 0, rfl⟩
  · exact ⟨_, cap, rfl⟩
theorem Cells.one (w : World) (v : Value) (t : TypeId) : Cells (w.alloc (.cells #[v] t)) (some ⟨w.heap.size, 0, none⟩) 1 [v] := by
  refine ⟨rfl, fun _ => ⟨w.heap.size, 0, rfl, fun j u hu => ?_⟩⟩
  rw [cell_of_row _ w.heap.size (0 + j) #[v] t (0, 0) (heap_alloc_new w _)]
  match j, hu with
  | 0, hu => simpa using hu

section
variable {P : Program} (w : World)

theorem run_append_cells (base : Nat) (t ty e : TypeId) (i : TypeInfo) (z : Value) (bytes : Nat) (ht : P.underlying t = some (.slice e)) (hi : P.info? e = some i) (hz : i.zero = some z)
    (hsize : i.size = 1) (hby : i.bytes = bytes) (hzs : z.cells.size = 1)
    (v : Value) (n : Nat) (xs : List Value) (hown : w.ownsRow base e 1 v n xs)
    (A : Option Addr) (m c : Nat) (news : List Value) (hr : Cells w A m news) (h1 : ∀ u ∈ news, u.oneCell' = true)
    (hbytes : (n + m) * bytes ≤ 140737488355328) (hpos : 0 < bytes) (hbase : base ≤ w.heap.size) :
    ∃ v' w', (Builtin.append_ #[t, t] ty #[v, .slice A m c]).run P w = .ok v' w' ∧ w'.ownsRow base e 1 v' (n + m) (xs ++ news) ∧ w.grownBy w' v.ownBlock ∧
      (v'.ownBlock = v.ownBlock ∨ v'.ownBlock = some w.heap.size) := by
  have hle : n + m ≤ (n + m) * bytes := Nat.le_mul_of_pos_right _ hpos
  have h63 : n + m ≤ maxLen := by simp only [maxLen]; omega
  rcases A with _ | ad
  · have hm : m = 0 := by
      rcases Nat.eq_zero_or_pos m with h0 | h0
      · exact h0
      · obtain ⟨b, o, h, _⟩ := hr.2 h0
        cases h
    subst hm
    have hn : news = [] := List.eq_nil_of_length_eq_zero hr.1
    subst hn
    refine ⟨v, w, ?_, by simpa using hown, ⟨rfl, rfl, rfl, Nat.le_refl _, fun _ _ _ => rfl⟩, .inl rfl⟩
    rcases hown.2 with ⟨rfl, rfl⟩ | ⟨g, cap, cur, rfl, _, _, hnc, _⟩
    · simp [Builtin.append_, run_underlying ht, sizeOf, typeInfo, hi, Builtin.lenOf, Builtin.firstCells]
    · simp [Builtin.append_, run_underlying ht, sizeOf, typeInfo, hi, Builtin.lenOf, Builtin.firstCells, hnc, storeCells]
  · have hcells : ∀ j u, news[j]? = some u → w.cell? (ad.add j) = some u := by
      intro j u hu
      have hlt : j < news.length := (List.getElem?_eq_some_iff.1 hu).1
      have hl := hr.1
      obtain ⟨b, o, h, hc⟩ := hr.2 (by omega)
      injection h with h
      subst h
      rw [addr_add]
      exact hc j u hu
    obtain ⟨v', w', hrun, h2, h3, _, h5⟩ := run_append_own_at (P := P) w base t ty e i z 1 bytes ht hi hz hsize hby hzs (by omega) v n xs hown ad m c news (by simpa using hr.1) hcells h1 h63 hbytes hbase
    exact ⟨v', w', hrun, h2, h3, h5⟩

theorem wp_append_cells {o : Oper} {a : Act} {K : Act → World → Prop} {Q : Exit → Act → World → Prop} (s x : Operand) (t : TypeId)
    (ho : o.op = .call { callee := .builtin .append, args := #[s, x], argTypes := #[t, t] })
    (base : Nat) (e : TypeId) (i : TypeInfo) (z : Value) (bytes : Nat) (ht : P.underlying t = some (.slice e)) (hi : P.info? e = some i) (hz : i.zero = some z)
    (hsize : i.size = 1) (hby : i.bytes = bytes) (hzs : z.cells.size = 1)
    (v : Value) (n : Nat) (xs : List Value) (hs : a.eval s = v) (hown : w.ownsRow base e 1 v n xs)
    (A : Option Addr) (m c : Nat) (news : List Value) (hx : a.eval x = .slice A m c) (hr : Cells w A m news) (h1 : ∀ u ∈ news, u.oneCell' = true)
    (hbytes : (n + m) * bytes ≤ 140737488355328) (hpos : 0 < bytes) (hbase : base ≤ w.heap.size)
    (h : ∀ v' w', w'.ownsRow base e 1 v' (n + m) (xs ++ news) → w.grownBy w' v.ownBlock → (v'.ownBlock = v.ownBlock ∨ v'.ownBlock = some w.heap.size) → K (a.put o.dst v') w') : o.wp P a w K Q := by
  obtain ⟨v', w', hrun, h2, h3, h4⟩ := run_append_cells (P := P) w base t o.type e i z bytes ht hi hz hsize hby hzs v n xs hown A m c news hr h1 hbytes hpos hbase
  unfold Oper.wp execOp
  simp only [ho, resolve, invoke, builtin, Sem.run_bind, Sem.run_pure, Result.andThen_ok, List.map_toArray, List.map_cons, List.map_nil, hs, hx, hrun]
  exact h v' w' h2 h3 h4

theorem wpList_append_cells {ops : Array Oper} {rest : List Oper} {o : Oper} {a : Act} {Q : Exit → Act → World → Prop} (hgd : o.guard = none) (s x : Operand) (t : TypeId)
    (ho : o.op = .call { callee := .builtin .append, args := #[s, x], argTypes := #[t, t] })
    (base : Nat) (e : TypeId) (i : TypeInfo) (z : Value) (bytes : Nat) (ht : P.underlying t = some (.slice e)) (hi : P.info? e = some i) (hz : i.zero = some z)
    (hsize : i.size = 1) (hby : i.bytes = bytes) (hzs : z.cells.size = 1)
    (v : Value) (n : Nat) (xs : List Value) (hs : a.eval s = v) (hown : w.ownsRow base e 1 v n xs)
    (A : Option Addr) (m c : Nat) (news : List Value) (hx : a.eval x = .slice A m c) (hr : Cells w A m news) (h1 : ∀ u ∈ news, u.oneCell' = true)
    (hbytes : (n + m) * bytes ≤ 140737488355328) (hpos : 0 < bytes) (hbase : base ≤ w.heap.size)
    (h : ∀ v' w', w'.ownsRow base e 1 v' (n + m) (xs ++ news) → w.grownBy w' v.ownBlock → (v'.ownBlock = v.ownBlock ∨ v'.ownBlock = some w.heap.size) → wpList P ops Q rest (a.put o.dst v') w') : wpList P ops Q (o :: rest) a w :=
  wpList_plain hgd fun _ hK => wp_append_cells w s x t ho base e i z bytes ht hi hz hsize hby hzs v n xs hs hown A m c news hx hr h1 hbytes hpos hbase fun v' w' h2 h3 h4 => hK _ _ (h v' w' h2 h3 h4)

theorem step_append_cells {ops : Array Oper} {o : Oper} {a : Act} {K : Act → World → Prop} {Q : Exit → Act → World → Prop} {E : Prop} (hgd : o.guard = none) (s x : Operand) (t : TypeId)
    (ho : o.op = .call { callee := .builtin .append, args := #[s, x], argTypes := #[t, t] })
    (base : Nat) (e : TypeId) (i : TypeInfo) (z : Value) (bytes : Nat) (ht : P.underlying t = some (.slice e)) (hi : P.info? e = some i) (hz : i.zero = some z)
    (hsize : i.size = 1) (hby : i.bytes = bytes) (hzs : z.cells.size = 1)
    (v : Value) (n : Nat) (xs : List Value) (hs : a.eval s = v) (hown : w.ownsRow base e 1 v n xs)
    (A : Option Addr) (m c : Nat) (news : List Value) (hx : a.eval x = .slice A m c) (hr : Cells w A m news) (h1 : ∀ u ∈ news, u.oneCell' = true)
    (hbytes : (n + m) * bytes ≤ 140737488355328) (hpos : 0 < bytes) (hbase : base ≤ w.heap.size)
    (h : ∀ v' w', w'.ownsRow base e 1 v' (n + m) (xs ++ news) → w.grownBy w' v.ownBlock → (v'.ownBlock = v.ownBlock ∨ v'.ownBlock = some w.heap.size) → K (a.put o.dst v') w') :
    if Region.wanted o (yielded ops a.tmps) = true then Oper.wp P o a w K Q else E := by
  have hw : Region.wanted o (yielded ops a.tmps) = true := by simp [Region.wanted, hgd]
  rw [if_pos hw]
  exact wp_append_cells w s x t ho base e i z bytes ht hi hz hsize hby hzs v n xs hs hown A m c news hx hr h1 hbytes hpos hbase h
end
end Go.Proofs.YtkgihpebghmnbaaGreatDoor

namespace Go.Proofs.YtkgihpebghmnbaaGreatDoor
open Go.RowKit Go.Proofs

set_option maxRecDepth 100000

/-- x, rotated: m and n are the powers of two. -/
def rot (m n : Int) (x : Int) : Int := bits .or .u32 (x * m % 4294967296) (x / n)

theorem rot_17 (w : World) (x : Int) : Calls Tryz.prog 303 #[.int .u32 x, .int .i64 (-17)] w fun e w' => e = .returned (.int .u32 (rot 32768 131072 x)) ∧ w = w' := by
  have hb : bits .and .u64 (IntKind.u64.wrap (-17)) 31 = 15 := by decide
  go_enter Tryz.func303, Tryz.ntmps303
  go_wp2
  go_ret
  exact ⟨rfl, rfl⟩
theorem rot_19 (w : World) (x : Int) : Calls Tryz.prog 303 #[.int .u32 x, .int .i64 (-19)] w fun e w' => e = .returned (.int .u32 (rot 8192 524288 x)) ∧ w = w' := by
  have hb : bits .and .u64 (IntKind.u64.wrap (-19)) 31 = 13 := by decide
  go_enter Tryz.func303, Tryz.ntmps303
  go_wp2
  go_ret
  exact ⟨rfl, rfl⟩
theorem rot_7 (w : World) (x : Int) : Calls Tryz.prog 303 #[.int .u32 x, .int .i64 (-7)] w fun e w' => e = .returned (.int .u32 (rot 33554432 128 x)) ∧ w = w' := by
  have hb : bits .and .u64 (IntKind.u64.wrap (-7)) 31 = 25 := by decide
  go_enter Tryz.func303, Tryz.ntmps303
  go_wp2
  go_ret
  exact ⟨rfl, rfl⟩
theorem rot_18 (w : World) (x : Int) : Calls Tryz.prog 303 #[.int .u32 x, .int .i64 (-18)] w fun e w' => e = .returned (.int .u32 (rot 16384 262144 x)) ∧ w = w' := by
  have hb : bits .and .u64 (IntKind.u64.wrap (-18)) 31 = 14 := by decide
  go_enter Tryz.func303, Tryz.ntmps303
  go_wp2
  go_ret
  exact ⟨rfl, rfl⟩
theorem rot_6 (w : World) (x : Int) : Calls Tryz.prog 303 #[.int .u32 x, .int .i64 (-6)] w fun e w' => e = .returned (.int .u32 (rot 67108864 64 x)) ∧ w = w' := by
  have hb : bits .and .u64 (IntKind.u64.wrap (-6)) 31 = 26 := by decide
  go_enter Tryz.func303, Tryz.ntmps303
  go_wp2
  go_ret
  exact ⟨rfl, rfl⟩
theorem rot_11 (w : World) (x : Int) : Calls Tryz.prog 303 #[.int .u32 x, .int .i64 (-11)] w fun e w' => e = .returned (.int .u32 (rot 2097152 2048 x)) ∧ w = w' := by
  have hb : bits .and .u64 (IntKind.u64.wrap (-11)) 31 = 21 := by decide
  go_enter Tryz.func303, Tryz.ntmps303
  go_wp2
  go_ret
  exact ⟨rfl, rfl⟩
theorem rot_25 (w : World) (x : Int) : Calls Tryz.prog 303 #[.int .u32 x, .int .i64 (-25)] w fun e w' => e = .returned (.int .u32 (rot 128 33554432 x)) ∧ w = w' := by
  have hb : bits .and .u64 (IntKind.u64.wrap (-25)) 31 = 7 := by decide
  go_enter Tryz.func303, Tryz.ntmps303
  go_wp2
  go_ret
  exact ⟨rfl, rfl⟩
theorem rot_2 (w : World) (x : Int) : Calls Tryz.prog 303 #[.int .u32 x, .int .i64 (-2)] w fun e w' => e = .returned (.int .u32 (rot 1073741824 4 x)) ∧ w = w' := by
  have hb : bits .and .u64 (IntKind.u64.wrap (-2)) 31 = 30 := by decide
  go_enter Tryz.func303, Tryz.ntmps303
  go_wp2
  go_ret
  exact ⟨rfl, rfl⟩
theorem rot_13 (w : World) (x : Int) : Calls Tryz.prog 303 #[.int .u32 x, .int .i64 (-13)] w fun e w' => e = .returned (.int .u32 (rot 524288 8192 x)) ∧ w = w' := by
  have hb : bits .and .u64 (IntKind.u64.wrap (-13)) 31 = 19 := by decide
  go_enter Tryz.func303, Tryz.ntmps303
  go_wp2
  go_ret
  exact ⟨rfl, rfl⟩
theorem rot_22 (w : World) (x : Int) : Calls Tryz.prog 303 #[.int .u32 x, .int .i64 (-22)] w fun e w' => e = .returned (.int .u32 (rot 1024 4194304 x)) ∧ w = w' := by
  have hb : bits .and .u64 (IntKind.u64.wrap (-22)) 31 = 10 := by decide
  go_enter Tryz.func303, Tryz.ntmps303
  go_wp2
  go_ret
  exact ⟨rfl, rfl⟩
/-- x, rotated by k. -/
def rotk (k : Int) (x : Int) : Int := rot (2 ^ (k % 32).toNat) (2 ^ (32 - (k % 32).toNat)) x

theorem rot_all (w : World) (x k : Int) (hk : k ∈ [-17, -19, -7, -18, -6, -11, -25, -2, -13, -22]) : Calls Tryz.prog 303 #[.int .u32 x, .int .i64 k] w fun e w' => e = .returned (.int .u32 (rotk k x)) ∧ w = w' := by
  simp only [List.mem_cons, List.not_mem_nil, or_false] at hk
  rcases hk with rfl | rfl | rfl | rfl | rfl | rfl | rfl | rfl | rfl | rfl
  · exact rot_17 w x
  · exact rot_19 w x
  · exact rot_7 w x
  · exact rot_18 w x
  · exact rot_6 w x
  · exact rot_11 w x
  · exact rot_25 w x
  · exact rot_2 w x
  · exact rot_13 w x
  · exact rot_22 w x
theorem rot_q (w : World) (x k : Int) (hk : k ∈ [-17, -19, -7, -18, -6, -11, -25, -2, -13, -22]) : Calls Tryz.prog 303 #[.int .u32 x, .int .i64 k] w fun e w' => e = .returned (.int .u32 (rotk k x)) ∧ w' = w := (rot_all w x k hk).mono fun _ _ h => ⟨h.1, h.2.symm⟩
end Go.Proofs.YtkgihpebghmnbaaGreatDoor

namespace Go.Proofs.YtkgihpebghmnbaaGreatDoor
open Go.RowKit Go.Proofs

set_option maxRecDepth 100000

theorem info_rows : (Tryz.prog.info? 30).map (fun i => (i.zero, i.size, i.bytes)) = some (some (.slice none 0 0), 1, 24) := by kernel_rfl
theorem info_u8 : (Tryz.prog.info? 5).map (fun i => (i.zero, i.size, i.bytes)) = some (some (.int .u8 0), 1, 1) := by kernel_rfl

/-- scriptError: an error's parts. -/
theorem scriptError_any (w : World) (c : Int) (s : ByteArray) :
    Calls Tryz.prog 49 #[.int .i64 c, .string s] w fun e w' => e = .returned (.agg #[.int .i64 c, .string s]) ∧ Below w.heap.size w w' := by
  go_enter Tryz.func49, Tryz.ntmps49
  go_wp2
  exact bodyPost_ret (v := .agg #[.int .i64 c, .string s]) (by simp [results, Tryz.results49, go_sem]) rfl ⟨rfl, (Below.refl _ _).alloc (Nat.le_refl _) _⟩

theorem depth_any (w : World) (b o n c : Nat) (A : Option Addr) (hn : n ≤ 2147483647) (h : w.cell? ⟨b, o, none⟩ = some (.slice A n c)) :
    Calls Tryz.prog 58 #[.pointer (some ⟨b, o, none⟩)] w fun e w' => e = .returned (.int .i32 n) ∧ w = w' := by
  have hn1 : (n : Int) ≤ 2147483647 := by omega
  go_enter Tryz.func58, Tryz.ntmps58
  go_wp2
  go_ret
  exact ⟨rfl, rfl⟩

/-- PushByteArray. -/
theorem push_any (w : World) (b o t base n : Nat) (cs : Array Value) (A As : Option Addr) (c ns cs' : Nat) (items : List Value)
    (hB : Blk w b t cs) (hv : cs[o]? = some (.slice A n c)) (hown : w.ownsRow base 30 1 (.slice A n c) n items) (ht : 30 ≠ t) (hn : n ≤ 100000) (hbase : base ≤ w.heap.size) :
    Calls Tryz.prog 176 #[.pointer (some ⟨b, o, none⟩), .slice As ns cs'] w fun e w' => e = .returned (.tuple #[]) ∧
      ∃ A' c', Blk w' b t (cs.setIfInBounds o (.slice A' (n + 1) c')) ∧ w'.ownsRow base 30 1 (.slice A' (n + 1) c') (n + 1) (items ++ [.slice As ns cs']) ∧
        Fm (M2 b (.slice A n c)) w w' ∧ ((Value.slice A' (n + 1) c').ownBlock = (Value.slice A n c).ownBlock ∨ (Value.slice A' (n + 1) c').ownBlock = some (w.heap.size + 1) ∨ (Value.slice A' (n + 1) c').ownBlock = some w.heap.size) := by
  obtain ⟨i0, hi, hz0, hz1, hz2⟩ := info_parts info_rows
  have hc := (hB.cell o).trans hv
  have hf := hB.frozen o
  have hbl := hB.lt
  have hone : Hid (∀ u ∈ [Value.slice As ns cs'], u.oneCell' = true) := by intro u hu; simp at hu; subst hu; rfl
  have hbs : Hid ((n + 1) * 24 ≤ 140737488355328) := by show _ ≤ _; omega
  have hba : Hid (base ≤ (w.alloc (.cells #[.slice As ns cs'] 30)).heap.size) := by show _ ≤ _; simp; omega
  have hp : Hid (0 < 24) := by show 0 < 24; omega
  go_enter Tryz.func176, Tryz.ntmps176
  go_wp2_with (at_builtin; refine Stop.mk ?_)
  refine Stop.go ?_
  refine wpList_append_cells _ rfl (.tmp 8) (.tmp 10) 41 rfl base 30 i0 _ 24 Tryz.underlying41 hi hz0 hz1 hz2 rfl (.slice A n c) n items rfl (hown.alloc _) (some ⟨w.heap.size, 0, none⟩) 1 1 [.slice As ns cs'] rfl (Cells.one w _ _) hone.out hbs.out hp.out hba.out ?_
  intro v' w1 hown' hgrow hat
  obtain ⟨A', c', rfl⟩ := own_form hown'
  have hB1 := (hB.alloc (.cells #[.slice As ns cs'] 30)).grown hgrow (Ne.symm (own_blk_ne hown hB ht))
  have hc1 := (hB1.cell o).trans hv
  have hf1 := hB1.frozen o
  have hbl1 := hB1.lt
  go_wp2
  go_end0
  refine ⟨rfl, A', c', hB1.set_ o _, own_set hown' (p := ⟨b, o, none⟩) hB1 ht _, ?_, ?_⟩
  · exact (((Fm.refl _ w).alloc _).grown hgrow (fun k _ hk => .inr hk)).setCell (p := ⟨b, o, none⟩) (fun _ => .inl rfl) _
  · rcases hat with h | h
    · exact .inl h
    · exact .inr (.inl (by rw [h]; simp))
end Go.Proofs.YtkgihpebghmnbaaGreatDoor

namespace Go.Proofs.YtkgihpebghmnbaaGreatDoor
open Go.RowKit Go.Proofs

set_option maxRecDepth 100000

/-- nipN at 0: the top is taken away. -/
theorem nip0_any (w : World) (b o t base n : Nat) (cs : Array Value) (A Ax : Option Addr) (c nx cx : Nat) (items : List Value)
    (hB : Blk w b t cs) (hv : cs[o]? = some (.slice A (n + 1) c)) (hown : w.ownsRow base 30 1 (.slice A (n + 1) c) (n + 1) (items ++ [.slice Ax nx cx])) (ht : 30 ≠ t) (hn : n ≤ 100000) :
    Calls Tryz.prog 175 #[.pointer (some ⟨b, o, none⟩), .int .i32 0] w fun e w' => e = .returned (.tuple #[.slice Ax nx cx, .nilIface]) ∧
      Blk w' b t (cs.setIfInBounds o (.slice A n c)) ∧ w'.ownsRow base 30 1 (.slice A n c) n items ∧ Fm (M1 b) w w' := by
  obtain ⟨g, cap, hform, hbg, hlt⟩ := hown.form (by omega)
  injection hform with e1 e2 e3
  subst e1; subst e3
  have hlen : items.length = n := by have := hown.1; simp at this; omega
  have hx : w.cell? ⟨g, n, none⟩ = some (.slice Ax nx cx) := by
    have := hown.cells (g := g) rfl n (.slice Ax nx cx) (by rw [List.getElem?_append_right (by omega)]; simp [hlen])
    rwa [addr_add, Nat.zero_add] at this
  have hc := (hB.cell o).trans hv
  have hf := hB.frozen o
  have hbl := hB.lt
  have hcap : n + 1 ≤ c := by
    rcases hown.2 with ⟨h0, _⟩ | ⟨g', cap', cur, he, _, _, h1, _⟩
    · cases h0
    · injection he with _ _ e; omega
  have hpop := Lib.hid (ownsRow_pop (by simpa using hlen) hown)
  have HB := Lib.hid hB
  have HO := Lib.hid hown
  clear hB hown hv
  have hi0 : (0 : Int) ≤ (n : Int) := by omega
  have hi1 : (n : Int) ≤ 100000 := by omega
  have hi2 : (n : Int) + 1 ≤ (c : Int) := by omega
  go_enter Tryz.func175, Tryz.ntmps175
  go_wp2
  go_ret2
  exact ⟨rfl, HB.out.set_ o _, own_set hpop.out (p := ⟨b, o, none⟩) HB.out ht _, (Fm.refl _ w).set1 o _⟩

theorem pop_any (w : World) (b o t base n : Nat) (cs : Array Value) (A Ax : Option Addr) (c nx cx : Nat) (items : List Value)
    (hB : Blk w b t cs) (hv : cs[o]? = some (.slice A (n + 1) c)) (hown : w.ownsRow base 30 1 (.slice A (n + 1) c) (n + 1) (items ++ [.slice Ax nx cx])) (ht : 30 ≠ t) (hn : n ≤ 100000) :
    Calls Tryz.prog 89 #[.pointer (some ⟨b, o, none⟩)] w fun e w' => e = .returned (.tuple #[.slice Ax nx cx, .nilIface]) ∧
      Blk w' b t (cs.setIfInBounds o (.slice A n c)) ∧ w'.ownsRow base 30 1 (.slice A n c) n items ∧ Fm (M1 b) w w' := by
  have H := Lib.hid (nip0_any w b o t base n cs A Ax c nx cx items hB hv hown ht hn)
  clear hB hv hown
  go_enter Tryz.func89, Tryz.ntmps89
  go_wp2_with fail
  refine H.out.mono ?_
  rintro e w' ⟨rfl, h⟩
  have h := Lib.hid h
  go_wp2
  go_ret2
  exact ⟨rfl, h.out⟩

/-- PeekByteArray at 0: the top. -/
theorem peek0_any (w : World) (b o t base n : Nat) (cs : Array Value) (A Ax : Option Addr) (c nx cx : Nat) (items : List Value)
    (hB : Blk w b t cs) (hv : cs[o]? = some (.slice A (n + 1) c)) (hown : w.ownsRow base 30 1 (.slice A (n + 1) c) (n + 1) (items ++ [.slice Ax nx cx])) (hn : n ≤ 100000) :
    Calls Tryz.prog 65 #[.pointer (some ⟨b, o, none⟩), .int .i32 0] w fun e w' => e = .returned (.tuple #[.slice Ax nx cx, .nilIface]) ∧ w = w' := by
  obtain ⟨g, cap, hform, hbg, hlt⟩ := hown.form (by omega)
  injection hform with e1 e2 e3
  subst e1
  have hlen : items.length = n := by have := hown.1; simp at this; omega
  have hx : w.cell? ⟨g, n, none⟩ = some (.slice Ax nx cx) := by
    have := hown.cells (g := g) rfl n (.slice Ax nx cx) (by rw [List.getElem?_append_right (by omega)]; simp [hlen])
    rwa [addr_add, Nat.zero_add] at this
  have hc := (hB.cell o).trans hv
  clear hB hown hv
  have hi0 : (0 : Int) ≤ (n : Int) := by omega
  have hi1 : (n : Int) ≤ 100000 := by omega
  go_enter Tryz.func65, Tryz.ntmps65
  go_wp2
  go_ret2
  exact ⟨rfl, rfl⟩

/-- asBool of the two truths. -/
theorem asBool_one (w : World) (b o c : Nat) (h : w.cell? ⟨b, o, none⟩ = some (.int .u8 1)) :
    Calls Tryz.prog 94 #[.slice (some ⟨b, o, none⟩) 1 c] w fun e w' => e = .returned (.bool true) ∧ w = w' := by
  go_enter Tryz.func94, Tryz.ntmps94
  go_wp2
  refine wp_loop_rounds 1 ?_
  rw [rounds_succ]
  go_wp2
  go_ret
  exact ⟨rfl, rfl⟩
theorem asBool_none (w : World) (A : Option Addr) (c : Nat) :
    Calls Tryz.prog 94 #[.slice A 0 c] w fun e w' => e = .returned (.bool false) ∧ w = w' := by
  go_enter Tryz.func94, Tryz.ntmps94
  go_wp2
  refine wp_loop_rounds 1 ?_
  rw [rounds_succ]
  go_wp2
  go_ret
  exact ⟨rfl, rfl⟩

/-- PopBool, of an element that is one truth or the other. -/
def IsTruth (w : World) (Ax : Option Addr) (nx : Nat) (v : Bool) : Prop := (nx = 0 ∧ v = false) ∨ (∃ b o, Ax = some ⟨b, o, none⟩ ∧ nx = 1 ∧ v = true ∧ w.cell? ⟨b, o, none⟩ = some (.int .u8 1))
theorem asBool_any (w : World) (Ax : Option Addr) (nx cx : Nat) (v : Bool) (h : IsTruth w Ax nx v) :
    Calls Tryz.prog 94 #[.slice Ax nx cx] w fun e w' => e = .returned (.bool v) ∧ w = w' := by
  rcases h with ⟨rfl, rfl⟩ | ⟨b, o, rfl, rfl, rfl, h⟩
  · exact asBool_none w Ax cx
  · exact asBool_one w b o cx h

theorem popBool_any (w : World) (b o t base n : Nat) (cs : Array Value) (A Ax : Option Addr) (c nx cx : Nat) (items : List Value) (v : Bool)
    (hB : Blk w b t cs) (hv : cs[o]? = some (.slice A (n + 1) c)) (hown : w.ownsRow base 30 1 (.slice A (n + 1) c) (n + 1) (items ++ [.slice Ax nx cx])) (ht : 30 ≠ t) (hn : n ≤ 100000)
    (htr : ∀ w', Fm (M1 b) w w' → IsTruth w' Ax nx v) :
    Calls Tryz.prog 64 #[.pointer (some ⟨b, o, none⟩)] w fun e w' => e = .returned (.tuple #[.bool v, .nilIface]) ∧
      Blk w' b t (cs.setIfInBounds o (.slice A n c)) ∧ w'.ownsRow base 30 1 (.slice A n c) n items ∧ Fm (M1 b) w w' := by
  have H := Lib.hid (pop_any w b o t base n cs A Ax c nx cx items hB hv hown ht hn)
  have HT := Lib.hid htr
  clear hB hv hown htr
  go_enter Tryz.func64, Tryz.ntmps64
  go_wp2_with fail
  refine H.out.mono ?_
  rintro e w1 ⟨rfl, h1, h2, h3⟩
  have h := Lib.hid (And.intro h1 (And.intro h2 h3))
  have HA := Lib.hid (asBool_any w1 Ax nx cx v (HT.out w1 h3))
  clear h1 h2 h3
  go_wp2_with fail
  refine HA.out.mono ?_
  rintro e w2 ⟨rfl, rfl⟩
  go_wp2
  go_ret2
  exact ⟨rfl, h.out⟩

/-- DropN at 0 hands back a fault. -/
theorem dropN0_any (w : World) (p : Value) :
    Calls Tryz.prog 60 #[p, .int .i32 0] w fun e w' => (∃ x, e = .returned (.iface 93 x)) ∧ Below w.heap.size w w' := by
  go_enter Tryz.func60, Tryz.ntmps60
  go_wp2_with fail
  refine (scriptError_any _ _ _).mono ?_
  rintro e w1 ⟨rfl, h⟩
  have h := Lib.hid h
  go_wp2
  go_ret
  exact ⟨⟨_, rfl⟩, h.out⟩
end Go.Proofs.YtkgihpebghmnbaaGreatDoor
