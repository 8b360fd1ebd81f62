/- Words of memory: what a call may change, a block known whole, bytes and lists of bytes that are read. -/
import Derived.WalkKit
import Derived.Below
import Derived.Laws.OwnMore
import Derived.Laws.Rows
import Derived.Deep.AppendLies
import Derived.Deep.Draws
namespace Go.Proofs.YtafpgikhcjildaaGreatDoor
open Go.RowKit

/-- A goal behind a name: the walk stops there. -/
def Stop (p : Prop) : Prop := p
theorem Stop.mk {p : Prop} (h : Stop p) : p := h
theorem Stop.go {p : Prop} (h : p) : Stop p := h

/-- From w to w' nothing has turned but blocks that M lets turn, and new ones. -/
structure Fm (M : Nat → Prop) (w w' : World) : Prop where
  os : w'.os = w.os
  tape : w'.tape = w.tape
  output : w'.output = w.output
  size : w.heap.size ≤ w'.heap.size
  block : ∀ k, k < w.heap.size → ¬ M k → w'.heap[k]? = w.heap[k]?

/-- Block g is known whole. -/
def Blk (w : World) (g : Nat) (t : TypeId) (cs : Array Value) : Prop := w.heap[g]? = some (.cells cs t (0, 0))

/-- The blocks that a method of the machine may turn: the machine's own one, and the row of its stack. -/
def M2 (g : Nat) (v : Value) (k : Nat) : Prop := k = g ∨ v.ownBlock = some k
def M1 (g : Nat) (k : Nat) : Prop := k = g

section
variable {B B' : Nat} {M M' : Nat → Prop} {w w' w'' : World} {g : Nat} {t : TypeId} {cs : Array Value}

theorem Fm.refl (M : Nat → Prop) (w : World) : Fm M w w := ⟨rfl, rfl, rfl, Nat.le_refl _, fun _ _ _ => rfl⟩
theorem Fm.trans' (h : Fm M w w') (k : Fm M' w' w'') (hM : ∀ j, j < w.heap.size → M' j → M j) : Fm M w w'' :=
  ⟨k.os.trans h.os, k.tape.trans h.tape, k.output.trans h.output, Nat.le_trans h.size k.size,
    fun i hi hn => (k.block i (Nat.lt_of_lt_of_le hi h.size) (fun hm => hn (hM i hi hm))).trans (h.block i hi hn)⟩
theorem Fm.trans (h : Fm M w w') (k : Fm M w' w'') : Fm M w w'' := h.trans' k fun _ _ hm => hm
theorem Fm.mono (h : Fm M w w') (hM : ∀ j, j < w.heap.size → M j → M' j) : Fm M' w w' :=
  ⟨h.os, h.tape, h.output, h.size, fun k hk hn => h.block k hk (fun hm => hn (hM k hk hm))⟩
theorem Fm.of_below (h : Below w.heap.size w w') : Fm M w w' := ⟨h.os, h.tape, h.output, h.size, fun k hk _ => h.block k hk⟩
theorem Fm.toBelow (h : Fm M w w') (hB : B ≤ w.heap.size) (hM : ∀ k, k < B → ¬ M k) : Below B w w' :=
  ⟨h.os, h.tape, h.output, h.size, fun k hk => h.block k (by omega) (hM k hk)⟩
theorem Fm.drew (h : Fm M w w') : Fm M w w'.drew := ⟨h.os, h.tape, h.output, h.size, h.block⟩
theorem Fm.drewN (h : Fm M w w') (n : Nat) : Fm M w (w'.drewN n) := ⟨h.os, h.tape, h.output, h.size, h.block⟩
theorem Fm.below (h : Fm M w w') (k : Below w'.heap.size w' w'') : Fm M w w'' := h.trans (Fm.of_below k)
theorem Fm.alloc (h : Fm M w w') (o : Obj) : Fm M w (w'.alloc o) := h.below ((Below.refl _ _).alloc (Nat.le_refl _) o)
theorem Fm.setCell (h : Fm M w w') {p : Addr} (hp : p.block < w.heap.size → M p.block) (u : Value) : Fm M w (w'.setCell p u) :=
  ⟨h.os, h.tape, h.output, by simpa [World.setCell] using h.size, fun k hk hn => by
    rw [Below.heap_setCell _ _ _ _ (by rintro rfl; exact hn (hp hk))]
    exact h.block k hk hn⟩
theorem Fm.set1 (h : Fm (M1 g) w w') (o : Nat) (u : Value) : Fm (M1 g) w (w'.setCell ⟨g, o, none⟩ u) := Fm.setCell (M := M1 g) (p := ⟨g, o, none⟩) h (fun _ => rfl) u
theorem Fm.set2 {v : Value} (h : Fm (M2 g v) w w') (o : Nat) (u : Value) : Fm (M2 g v) w (w'.setCell ⟨g, o, none⟩ u) := Fm.setCell (M := M2 g v) (p := ⟨g, o, none⟩) h (fun _ => .inl rfl) u
theorem Fm.one {v : Value} (h : Fm (M1 g) w w') : Fm (M2 g v) w w' := h.mono fun _ _ h => .inl h
theorem Fm.grown {v : Value} (h : Fm M w w') (hg : w'.grownBy w'' v.ownBlock) (hv : ∀ k, k < w.heap.size → v.ownBlock = some k → M k) : Fm M w w'' :=
  ⟨hg.os.trans h.os, hg.tape.trans h.tape, hg.output.trans h.output, Nat.le_trans h.size hg.size, fun k hk hn =>
    (hg.block k (Nat.lt_of_lt_of_le hk h.size) (fun e => hn (hv k hk e.symm))).trans (h.block k hk hn)⟩

theorem Blk.lt (h : Blk w g t cs) : g < w.heap.size := (Array.getElem?_eq_some_iff.1 h).1
theorem Blk.cell (h : Blk w g t cs) (i : Nat) : w.cell? ⟨g, i, none⟩ = cs[i]? := cell_of_row w g i cs t (0, 0) h
theorem Blk.frozen (h : Blk w g t cs) (i : Nat) : w.frozen? ⟨g, i, none⟩ = false := by
  unfold Blk at h
  simp [World.frozen?, h]
theorem Blk.new (w : World) (t : TypeId) (cs : Array Value) : Blk (w.alloc (.cells cs t)) w.heap.size t cs := heap_alloc_new w _
theorem Blk.drew (h : Blk w g t cs) : Blk w.drew g t cs := h
theorem Blk.drewN (h : Blk w g t cs) (n : Nat) : Blk (w.drewN n) g t cs := h
theorem Blk.alloc (h : Blk w g t cs) (o : Obj) : Blk (w.alloc o) g t cs := (Below.heap_alloc w o g h.lt).trans h
theorem Blk.set_ (h : Blk w g t cs) (i : Nat) (u : Value) : Blk (w.setCell ⟨g, i, none⟩ u) g t (cs.setIfInBounds i u) := by
  unfold Blk at h ⊢
  simp [World.setCell, Array.getElem?_modify, h]
theorem Blk.far (h : Blk w g t cs) {p : Addr} (hp : g ≠ p.block) (u : Value) : Blk (w.setCell p u) g t cs := (Below.heap_setCell w p u g hp).trans h
theorem Blk.below (h : Blk w g t cs) (hb : Below B w w') (hg : g < B) : Blk w' g t cs := (hb.block g hg).trans h
theorem Blk.fm (h : Blk w g t cs) (hb : Fm M w w') (hg : ¬ M g) : Blk w' g t cs := (hb.block g h.lt hg).trans h
theorem Blk.grown {row : Option Nat} (h : Blk w g t cs) (hb : w.grownBy w' row) (hg : some g ≠ row) : Blk w' g t cs := (hb.block g h.lt hg).trans h
theorem Blk.ne_ {g' : Nat} {t' : TypeId} {cs' : Array Value} (h : Blk w g t cs) (h' : Blk w g' t' cs') (hne : t ≠ t') : g ≠ g' := by
  rintro rfl
  unfold Blk at h h'
  rw [h] at h'
  injection h' with h'
  injection h' with _ ht
  exact hne ht
theorem own_blk_ne {base : Nat} {e : TypeId} {size n : Nat} {v : Value} {xs : List Value} (h : w.ownsRow base e size v n xs) (hg : Blk w g t cs) (hne : e ≠ t) : v.ownBlock ≠ some g := by
  rcases h.2 with ⟨rfl, _⟩ | ⟨g', cap, cur, rfl, _, hh, _⟩
  · simp [Value.ownBlock]
  · intro he
    have : g' = g := by simpa [Value.ownBlock] using he
    subst this
    exact Blk.ne_ (t := e) hh hg hne rfl
theorem own_fm {base : Nat} {e : TypeId} {size n : Nat} {v : Value} {xs : List Value} (h : w.ownsRow base e size v n xs) (hb : Fm M w w') (hv : ∀ k, v.ownBlock = some k → ¬ M k) : w'.ownsRow base e size v n xs := by
  refine ⟨h.1, ?_⟩
  rcases h.2 with hn | ⟨g, cap, cur, rfl, hbg, hgg, rest⟩
  · exact .inl hn
  · exact .inr ⟨g, cap, cur, rfl, hbg, (hb.block g (Array.getElem?_eq_some_iff.1 hgg).1 (hv g rfl)).trans hgg, rest⟩
theorem own_below {base : Nat} {e : TypeId} {size n : Nat} {v : Value} {xs : List Value} (h : w.ownsRow base e size v n xs) (hb : Below w.heap.size w w') : w'.ownsRow base e size v n xs :=
  own_fm (M := fun _ => False) h (Fm.of_below hb) (fun _ _ h => h)
theorem own_set {base : Nat} {e : TypeId} {size n : Nat} {v : Value} {xs : List Value} (h : w.ownsRow base e size v n xs) {p : Addr} (hb : Blk w p.block t cs) (hne : e ≠ t) (u : Value) :
    (w.setCell p u).ownsRow base e size v n xs := by
  refine ⟨h.1, ?_⟩
  rcases h.2 with hn | ⟨g, cap, cur, rfl, hbg, hgg, rest⟩
  · exact .inl hn
  · refine .inr ⟨g, cap, cur, rfl, hbg, ?_, rest⟩
    rw [Below.heap_setCell _ _ _ _ ?_]
    · exact hgg
    · exact Blk.ne_ (t := e) hgg hb hne
theorem own_lower {base base' : Nat} {e : TypeId} {size n : Nat} {v : Value} {xs : List Value} (h : w.ownsRow base e size v n xs) (hb : base' ≤ base) : w.ownsRow base' e size v n xs := by
  refine ⟨h.1, ?_⟩
  rcases h.2 with hn | ⟨g, cap, cur, rfl, hbg, rest⟩
  · exact .inl hn
  · exact .inr ⟨g, cap, cur, rfl, by omega, rest⟩

/-- Bytes as values. -/
def bv (bs : List UInt8) : List Value := bs.map fun b => .int .u8 b.toNat
theorem bv_length (bs : List UInt8) : (bv bs).length = bs.length := by simp [bv]
theorem bv_append (as bs : List UInt8) : bv (as ++ bs) = bv as ++ bv bs := by simp [bv]
theorem bv_get (bs : List UInt8) (j : Nat) : (bv bs)[j]? = bs[j]?.map fun b => .int .u8 b.toNat := by simp [bv]

/-- The types of the blocks that the machine's methods turn. -/
def Sx : List TypeId := [84, 24, 78
  , 46, 27, 22
  ]

/-- The slice value v reads as the bytes bs: below block B, or in a block that is none of the machine's. -/
def Rd (B : Nat) (w : World) (v : Value) (bs : List UInt8) : Prop :=
  ∃ A c, v = .slice A bs.length c ∧ bs.length ≤ c ∧
    (0 < bs.length → ∃ b o ds t fr, A = some ⟨b, o, none⟩ ∧ w.heap[b]? = some (.cells ds t fr) ∧ (b < B ∨ t ∉ Sx) ∧ ∀ j u, bs[j]? = some u → ds[o + j]? = some (.int .u8 u.toNat))

/-- What may turn lies from block B on, and is the machine's. -/
def Its (B : Nat) (w : World) (M : Nat → Prop) : Prop := ∀ k, k < w.heap.size → M k → B ≤ k ∧ ∃ cs t fr, w.heap[k]? = some (.cells cs t fr) ∧ t ∈ Sx

theorem Its.m2 {v : Value} {base e size n : Nat} {xs : List Value} (hg : Blk w g t cs) (ht : t ∈ Sx) (hB : B ≤ g) (ho : w.ownsRow base e size v n xs) (he : e ∈ Sx) (hb : B ≤ base) : Its B w (M2 g v) := by
  rintro k hk (rfl | hv)
  · exact ⟨hB, cs, t, (0, 0), hg, ht⟩
  · rcases ho.2 with ⟨rfl, _⟩ | ⟨g', cap, cur, rfl, hbg, hgg, _⟩
    · simp [Value.ownBlock] at hv
    · have : g' = k := by simpa [Value.ownBlock] using hv
      subst this
      exact ⟨by omega, cur, e, (0, 0), hgg, he⟩
theorem Its.m1 (hg : Blk w g t cs) (ht : t ∈ Sx) (hB : B ≤ g) : Its B w (M1 g) := by
  rintro k hk rfl
  exact ⟨hB, cs, t, (0, 0), hg, ht⟩
theorem Rd.fm {v : Value} {bs : List UInt8} (h : Rd B w v bs) (hb : Fm M w w') (hM : Its B w M) : Rd B w' v bs := by
  obtain ⟨A, c, rfl, hc, h⟩ := h
  refine ⟨A, c, rfl, hc, fun hp => ?_⟩
  obtain ⟨b, o, ds, t, fr, rfl, hh, ht, hj⟩ := h hp
  refine ⟨b, o, ds, t, fr, rfl, ?_, ht, hj⟩
  rw [hb.block b (Array.getElem?_eq_some_iff.1 hh).1 ?_]
  · exact hh
  · intro hm
    obtain ⟨hB, cs, t', fr', hh', ht'⟩ := hM b (Array.getElem?_eq_some_iff.1 hh).1 hm
    rcases ht with ht | ht
    · omega
    · rw [hh] at hh'
      injection hh' with hh'
      injection hh' with _ e
      exact ht (e ▸ ht')
theorem Rd.below {v : Value} {bs : List UInt8} (h : Rd B w v bs) (hb : Below w.heap.size w w') : Rd B w' v bs :=
  h.fm (M := fun _ => False) (Fm.of_below hb) (fun _ _ h => h.elim)
theorem Rd.cell {A : Option Addr} {n c : Nat} {bs : List UInt8} (h : Rd B w (.slice A n c) bs) {j : Nat} (hj : j < n) :
    ∃ b o, A = some ⟨b, o, none⟩ ∧ w.cell? ⟨b, o + j, none⟩ = some (.int .u8 (bs.getD j 0).toNat) := by
  obtain ⟨A', c', e, hc, h⟩ := h
  injection e with e1 e2 e3
  subst e1; subst e2; subst e3
  obtain ⟨b, o, ds, t, fr, rfl, hh, _, hj'⟩ := h (by omega)
  refine ⟨b, o, rfl, ?_⟩
  rw [cell_of_row w b (o + j) ds t fr hh]
  rw [hj' j (bs.getD j 0) (by simp [List.getD_eq_getElem?_getD, List.getElem?_eq_getElem hj])]
theorem Rd.len {A : Option Addr} {n c : Nat} {bs : List UInt8} (h : Rd B w (.slice A n c) bs) : n = bs.length ∧ n ≤ c := by
  obtain ⟨A', c', e, hc, _⟩ := h
  injection e with e1 e2 e3
  subst e2; subst e3
  exact ⟨rfl, hc⟩
theorem Rd.nil (B : Nat) (w : World) (A : Option Addr) (c : Nat) : Rd B w (.slice A 0 c) [] := ⟨A, c, rfl, Nat.zero_le _, fun h => absurd h (by simp)⟩
theorem Rd.slice {v : Value} {bs : List UInt8} (h : Rd B w v bs) : ∃ A c, v = .slice A bs.length c ∧ bs.length ≤ c := by
  obtain ⟨A, c, e, hc, _⟩ := h
  exact ⟨A, c, e, hc⟩
/-- A part of it. -/
theorem Rd.part {b o n c : Nat} {bs : List UInt8} (h : Rd B w (.slice (some ⟨b, o, none⟩) n c) bs) (i m c' : Nat) (hm : i + m ≤ n) (hc : m ≤ c') :
    Rd B w (.slice (some ⟨b, o + i, none⟩) m c') ((bs.drop i).take m) := by
  obtain ⟨A', c0, e, hc0, h⟩ := h
  injection e with e1 e2 e3
  subst e2
  have hl : ((bs.drop i).take m).length = m := by simp; omega
  refine ⟨some ⟨b, o + i, none⟩, c', by rw [hl], by omega, fun hp => ?_⟩
  obtain ⟨b', o', ds, t, fr, e', hh, ht, hj⟩ := h (by omega)
  rw [← e1] at e'
  injection e' with e'
  injection e' with e2 e3
  subst e2; subst e3
  refine ⟨b, o + i, ds, t, fr, rfl, hh, ht, fun j u hu => ?_⟩
  rw [List.getElem?_take] at hu
  split at hu
  · rw [List.getElem?_drop] at hu
    rw [Nat.add_assoc]
    exact hj _ _ hu
  · cases hu
/-- A row of the call's own reads. -/
theorem Rd.of_own {base : Nat} {e : TypeId} {v : Value} {bs : List UInt8} (h : w.ownsRow base e 1 v bs.length (bv bs)) (he : e ∉ Sx) : Rd B w v bs := by
  rcases h.2 with ⟨rfl, h0⟩ | ⟨g, cap, cur, rfl, hbg, hgg, hn, hm, hs, ht⟩
  · have : bs = [] := List.eq_nil_of_length_eq_zero h0
    subst this
    exact Rd.nil _ _ _ _
  · refine ⟨_, cap, rfl, hn, fun hp => ⟨g, 0, cur, e, (0, 0), rfl, hgg, .inr he, fun j u hu => ?_⟩⟩
    have h2 : (bv bs)[j]? = some (.int .u8 u.toNat) := by rw [bv_get, hu]; rfl
    rw [← ht, List.getElem?_take] at h2
    split at h2
    · simpa using h2
    · cases h2

/-- A list of lists of bytes: the row's cells, each a slice that reads. -/
def RdL (B : Nat) (w : World) (vs : List Value) (xss : List (List UInt8)) : Prop := vs.length = xss.length ∧ ∀ (i : Nat) (v : Value) (xs : List UInt8), vs[i]? = some v → xss[i]? = some xs → Rd B w v xs
theorem RdL.fm {vs : List Value} {xss : List (List UInt8)} (h : RdL B w vs xss) (hb : Fm M w w') (hM : Its B w M) : RdL B w' vs xss := ⟨h.1, fun i v xs h1 h2 => (h.2 i v xs h1 h2).fm hb hM⟩
theorem RdL.below {vs : List Value} {xss : List (List UInt8)} (h : RdL B w vs xss) (hb : Below w.heap.size w w') : RdL B w' vs xss := ⟨h.1, fun i v xs h1 h2 => (h.2 i v xs h1 h2).below hb⟩
theorem RdL.nil : RdL B w [] [] := ⟨rfl, fun i v xs h _ => by simp at h⟩
theorem RdL.snoc {vs : List Value} {xss : List (List UInt8)} {v : Value} {xs : List UInt8} (h : RdL B w vs xss) (hv : Rd B w v xs) : RdL B w (vs ++ [v]) (xss ++ [xs]) := by
  refine ⟨by simp [h.1], fun i u ys h1 h2 => ?_⟩
  rw [List.getElem?_append] at h1 h2
  by_cases hi : i < vs.length
  · rw [if_pos hi] at h1
    rw [if_pos (h.1 ▸ hi)] at h2
    exact h.2 i u ys h1 h2
  · rw [if_neg hi] at h1
    rw [if_neg (h.1 ▸ hi)] at h2
    have h0 : i - vs.length = 0 := by
      rcases Nat.eq_zero_or_pos (i - vs.length) with e | e
      · exact e
      · rw [List.getElem?_eq_none (by simp; omega)] at h1; cases h1
    rw [h0] at h1
    rw [← h.1, h0] at h2
    simp at h1 h2
    subst h1; subst h2
    exact hv
theorem RdL.init {vs : List Value} {xss : List (List UInt8)} {v : Value} {xs : List UInt8} (h : RdL B w (vs ++ [v]) (xss ++ [xs])) : RdL B w vs xss ∧ Rd B w v xs := by
  have hl : vs.length = xss.length := by have := h.1; simpa using this
  refine ⟨⟨hl, fun i u ys h1 h2 => h.2 i u ys ?_ ?_⟩, h.2 vs.length v xs (by simp) (by simp [hl])⟩
  · rw [List.getElem?_append_left (by have := List.getElem?_eq_some_iff.1 h1; exact this.1)]; exact h1
  · rw [List.getElem?_append_left (by have := List.getElem?_eq_some_iff.1 h2; exact this.1)]; exact h2
end
end Go.Proofs.YtafpgikhcjildaaGreatDoor
