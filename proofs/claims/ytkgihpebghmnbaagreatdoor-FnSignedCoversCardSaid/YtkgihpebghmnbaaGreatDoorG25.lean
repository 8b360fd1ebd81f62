/- A transaction of the text, built of any one as plain data. (Printed by gen_txf.py.) A transaction and 32 bytes that come in, as the walks read them. The tokenizer's small readers; a script out of which no opcode is taken. -/
import Derived.Test.YtkgihpebghmnbaaGreatDoorTx
import Derived.Test.YtkgihpebghmnbaaGreatDoorG24
import Derived.Test.YtkgihpebghmnbaaGreatDoorG18
import Derived.Test.YtkgihpebghmnbaaGreatDoorG15
import Derived.Lib.SmallJoins
import Derived.OpenShut
import Derived.Test.YtkgihpebghmnbaaGreatDoorG08
namespace Go.Proofs.YtkgihpebghmnbaaGreatDoor
open Go.RowKit Go.Proofs

set_option maxRecDepth 100000

/-- Inputs and transactions as plain data, with their witnesses. -/
structure PI where
  h : List UInt8
  hl : h.length = 32
  idx : Int
  scr : List UInt8
  wit : List (List UInt8)
  seq : Int
structure PT where
  ver : Int
  ins : List PI
  outs : List TO
  lock : Int
def PI.ti (p : PI) : TI := ⟨p.h, p.idx, p.scr, p.seq⟩
def PT.tx (p : PT) : TX := ⟨p.ver, p.ins.map PI.ti, p.outs, p.lock⟩

/-- The cells of an input as plain data. -/
def inImg (p : PI) (s w : Value) : List Value := bv p.h ++ [.int .u32 p.idx, s, w, .int .u32 p.seq]
/-- Such an input lies there, such an output. -/
def SrcIn (B : Nat) (w : World) (b o : Nat) (p : PI) : Prop := ∃ As cs Aw cw wvs, w.rangeAt b o (inImg p (.slice As p.scr.length cs) (.slice Aw p.wit.length cw)) ∧ Rd B w (.slice As p.scr.length cs) p.scr ∧ Cells w Aw p.wit.length wvs ∧ RdL B w wvs p.wit
def SrcOut (B : Nat) (w : World) (b o : Nat) (q : TO) : Prop := ∃ As cs, w.cell? ⟨b, o, none⟩ = some (.int .i64 q.val) ∧ w.cell? ⟨b, o + 1, none⟩ = some (.slice As q.scr.length cs) ∧ Rd B w (.slice As q.scr.length cs) q.scr
/-- The value reads as such a transaction. -/
structure SrcTx (B : Nat) (w : World) (Ai Ao : Option Addr) (p : PT) : Prop where
  ins : 0 < p.ins.length → ∃ b o, Ai = some ⟨b, o, none⟩ ∧ ∀ j pj, p.ins[j]? = some pj → SrcIn B w b (o + j * 36) pj
  outs : 0 < p.outs.length → ∃ b o, Ao = some ⟨b, o, none⟩ ∧ ∀ j pj, p.outs[j]? = some pj → SrcOut B w b (o + j * 2) pj
/-- It is small. -/
structure PT.Small (p : PT) : Prop where
  ni : p.ins.length ≤ 1000000
  no : p.outs.length ≤ 1000000
  ins : ∀ q ∈ p.ins, q.scr.length ≤ 1000000 ∧ q.wit.length ≤ 1000000 ∧ ∀ xs ∈ q.wit, xs.length ≤ 1000000
  outs : ∀ q ∈ p.outs, q.scr.length ≤ 1000000

theorem range_keep {w w' : World} {b o : Nat} {cs : List Value} (h : w.rangeAt b o cs) (hb : Below w.heap.size w w') : w'.rangeAt b o cs := fun j v hv => cell_keep hb (h j v hv)
theorem SrcIn.below {B : Nat} {w w' : World} {b o : Nat} {p : PI} (h : SrcIn B w b o p) (hb : Below w.heap.size w w') : SrcIn B w' b o p := by
  obtain ⟨As, cs, Aw, cw, wvs, h1, h2, h3, h4⟩ := h
  exact ⟨As, cs, Aw, cw, wvs, range_keep h1 hb, h2.below hb, h3.below hb, h4.below hb⟩
theorem SrcOut.below {B : Nat} {w w' : World} {b o : Nat} {p : TO} (h : SrcOut B w b o p) (hb : Below w.heap.size w w') : SrcOut B w' b o p := by
  obtain ⟨As, cs, h1, h2, h3⟩ := h
  exact ⟨As, cs, cell_keep hb h1, cell_keep hb h2, h3.below hb⟩
theorem SrcTx.below {B : Nat} {w w' : World} {Ai Ao : Option Addr} {p : PT} (h : SrcTx B w Ai Ao p) (hb : Below w.heap.size w w') : SrcTx B w' Ai Ao p :=
  ⟨fun hp => by obtain ⟨b, o, e, hj⟩ := h.ins hp; exact ⟨b, o, e, fun j pj hq => (hj j pj hq).below hb⟩,
    fun hp => by obtain ⟨b, o, e, hj⟩ := h.outs hp; exact ⟨b, o, e, fun j pj hq => (hj j pj hq).below hb⟩⟩

/-- What may turn is neither an input, an output nor a row of bytes. -/
def Oth (w : World) (M : Nat → Prop) : Prop := ∀ k, k < w.heap.size → M k → ∃ cs t fr, w.heap[k]? = some (.cells cs t fr) ∧ t ≠ 87 ∧ t ≠ 90 ∧ t ≠ 5
/-- The value points to such an input of the call's own, such an output. -/
def InX (w : World) (v : Value) (t : TI) : Prop := ∃ p ci A c, v = .pointer (some ⟨p, 0, none⟩) ∧ Blk w p 87 (Ci.cells ci).toArray ∧ ci.h = t.h ∧ ci.idx = t.idx ∧ ci.seq = t.seq ∧ ci.sv = .slice A t.scr.length c ∧ t.scr.length ≤ 1000000 ∧
  w.ownsRow 0 5 1 (.slice A t.scr.length c) t.scr.length (bv t.scr)
def OutX (w : World) (v : Value) (t : TO) : Prop := ∃ p A c, v = .pointer (some ⟨p, 0, none⟩) ∧ Blk w p 90 #[.int .i64 t.val, .slice A t.scr.length c] ∧ t.scr.length ≤ 1000000 ∧
  w.ownsRow 0 5 1 (.slice A t.scr.length c) t.scr.length (bv t.scr)
theorem blk_oth {w w' : World} {M : Nat → Prop} {p : Nat} {t : TypeId} {cs : Array Value} (h : Blk w p t cs) (hf : Fm M w w') (hM : Oth w M) (ht : t = 87 ∨ t = 90 ∨ t = 5) : Blk w' p t cs :=
  h.fm hf fun hm => by
    obtain ⟨ds, t', fr, h1, h2, h3, h4⟩ := hM p h.lt hm
    unfold Blk at h
    rw [h] at h1
    injection h1 with h1
    injection h1 with _ e
    rcases ht with rfl | rfl | rfl
    · exact h2 e.symm
    · exact h3 e.symm
    · exact h4 e.symm
theorem own_oth {w w' : World} {M : Nat → Prop} {base n : Nat} {v : Value} {xs : List Value} (h : w.ownsRow base 5 1 v n xs) (hf : Fm M w w') (hM : Oth w M) : w'.ownsRow base 5 1 v n xs := by
  refine own_fm h hf fun k hk hm => ?_
  rcases h.2 with ⟨rfl, _⟩ | ⟨g, cap, cur, rfl, hbg, hgg, _⟩
  · simp [Value.ownBlock] at hk
  · have : g = k := by simpa [Value.ownBlock] using hk
    subst this
    obtain ⟨ds, t', fr, h1, -, -, h4⟩ := hM g (Array.getElem?_eq_some_iff.1 hgg).1 hm
    rw [hgg] at h1
    injection h1 with h1
    injection h1 with _ e
    exact h4 e.symm
theorem InX.fm {w w' : World} {M : Nat → Prop} {v : Value} {t : TI} (h : InX w v t) (hf : Fm M w w') (hM : Oth w M) : InX w' v t := by
  obtain ⟨p, ci, A, c, h1, h2, h3, h4, h5, h6, h7, h8⟩ := h
  exact ⟨p, ci, A, c, h1, blk_oth h2 hf hM (.inl rfl), h3, h4, h5, h6, h7, own_oth h8 hf hM⟩
theorem OutX.fm {w w' : World} {M : Nat → Prop} {v : Value} {t : TO} (h : OutX w v t) (hf : Fm M w w') (hM : Oth w M) : OutX w' v t := by
  obtain ⟨p, A, c, h1, h2, h3, h4⟩ := h
  exact ⟨p, A, c, h1, blk_oth h2 hf hM (.inr (.inl rfl)), h3, own_oth h4 hf hM⟩
theorem own_cap {w : World} {base n c : Nat} {e : TypeId} {A : Option Addr} {xs : List Value} (h : w.ownsRow base e 1 (.slice A n c) n xs) : n ≤ c := by
  rcases h.2 with ⟨e, h0⟩ | ⟨g, cap, cur, he, _, _, hn', _⟩
  · injection e with e1 e2 e3; omega
  · injection he with e1 e2 e3; omega
theorem own_at {w : World} {base n c : Nat} {e : TypeId} {A : Option Addr} {xs : List Value} (h : w.ownsRow base e 1 (.slice A n c) n xs) : ∀ x y, A = some ⟨x, y, none⟩ → x < w.heap.size := by
  rintro x y rfl
  exact (World.ownsRow.lt h x rfl).2
theorem InX.at {w : World} {v : Value} {t : TI} (h : InX w v t) : InAt w.heap.size w v t := by
  obtain ⟨p, ci, A, c, h1, h2, h3, h4, h5, h6, h7, h8⟩ := h
  exact ⟨p, 0, ci, A, c, h1, h2.lt, fun j u hu => by rw [Nat.zero_add, h2.cell]; simpa using hu, h3, h4, h5, h6, own_cap h8, h7, Cells.of_own h8, own_at h8⟩
theorem OutX.at {w : World} {v : Value} {t : TO} (h : OutX w v t) : OutAt w.heap.size w v t := by
  obtain ⟨p, A, c, h1, h2, h3, h4⟩ := h
  exact ⟨p, 0, A, c, h1, h2.lt, h2.cell 0, h2.cell 1, own_cap h4, h3, Cells.of_own h4, own_at h4⟩
def InsX (w : World) (vs : List Value) (ts : List TI) : Prop := vs.length = ts.length ∧ ∀ (i : Nat) (v : Value) (t : TI), vs[i]? = some v → ts[i]? = some t → InX w v t
def OutsX (w : World) (vs : List Value) (ts : List TO) : Prop := vs.length = ts.length ∧ ∀ (i : Nat) (v : Value) (t : TO), vs[i]? = some v → ts[i]? = some t → OutX w v t
theorem InsX.fm {w w' : World} {M : Nat → Prop} {vs : List Value} {ts : List TI} (h : InsX w vs ts) (hf : Fm M w w') (hM : Oth w M) : InsX w' vs ts := ⟨h.1, fun i v t h1 h2 => (h.2 i v t h1 h2).fm hf hM⟩
theorem OutsX.fm {w w' : World} {M : Nat → Prop} {vs : List Value} {ts : List TO} (h : OutsX w vs ts) (hf : Fm M w w') (hM : Oth w M) : OutsX w' vs ts := ⟨h.1, fun i v t h1 h2 => (h.2 i v t h1 h2).fm hf hM⟩
theorem snoc_get {α : Type} {L : List α} {x y : α} {i : Nat} (h : (L ++ [x])[i]? = some y) : L[i]? = some y ∨ (i = L.length ∧ x = y) := by
  rw [List.getElem?_append] at h
  by_cases hi : i < L.length
  · rw [if_pos hi] at h; exact .inl h
  · rw [if_neg hi] at h
    have h0 : i - L.length = 0 := by
      rcases Nat.eq_zero_or_pos (i - L.length) with e | e
      · exact e
      · rw [List.getElem?_eq_none (by simp; omega)] at h; cases h
    rw [h0] at h
    simp at h
    exact .inr ⟨by omega, h⟩
theorem InsX.snoc {w : World} {vs : List Value} {ts : List TI} {v : Value} {t : TI} (h : InsX w vs ts) (hv : InX w v t) : InsX w (vs ++ [v]) (ts ++ [t]) := by
  refine ⟨by simp [h.1], fun i u s h1 h2 => ?_⟩
  have hl := h.1
  rcases snoc_get h1 with h1 | ⟨e1, rfl⟩ <;> rcases snoc_get h2 with h2 | ⟨e2, rfl⟩
  · exact h.2 i u s h1 h2
  · have := (List.getElem?_eq_some_iff.1 h1).1; omega
  · have := (List.getElem?_eq_some_iff.1 h2).1; omega
  · exact hv
theorem OutsX.snoc {w : World} {vs : List Value} {ts : List TO} {v : Value} {t : TO} (h : OutsX w vs ts) (hv : OutX w v t) : OutsX w (vs ++ [v]) (ts ++ [t]) := by
  refine ⟨by simp [h.1], fun i u s h1 h2 => ?_⟩
  have hl := h.1
  rcases snoc_get h1 with h1 | ⟨e1, rfl⟩ <;> rcases snoc_get h2 with h2 | ⟨e2, rfl⟩
  · exact h.2 i u s h1 h2
  · have := (List.getElem?_eq_some_iff.1 h1).1; omega
  · have := (List.getElem?_eq_some_iff.1 h2).1; omega
  · exact hv

theorem oth_row {w : World} {base n : Nat} {e : TypeId} {v : Value} {xs : List Value} (h : w.ownsRow base e 1 v n xs) (h1 : e ≠ 87) (h2 : e ≠ 90) (h3 : e ≠ 5) : Oth w (fun k => v.ownBlock = some k) := fun k hk hm => by
  rcases h.2 with ⟨rfl, _⟩ | ⟨g, cap, cur, rfl, hbg, hgg, _⟩
  · simp [Value.ownBlock] at hm
  · have : g = k := by simpa [Value.ownBlock] using hm
    subst this
    exact ⟨cur, e, _, hgg, h1, h2, h3⟩
theorem oth_blk {w : World} {g : Nat} {e : TypeId} {cs : Array Value} (h : Blk w g e cs) (h1 : e ≠ 87) (h2 : e ≠ 90) (h3 : e ≠ 5) : Oth w (M1 g) := fun k hk hm => by
  have : k = g := hm
  subst this
  exact ⟨cs, e, _, h, h1, h2, h3⟩
theorem list32 {L : List Value} (h : L.length = 32) : ∃ x0 x1 x2 x3 x4 x5 x6 x7 x8 x9 x10 x11 x12 x13 x14 x15 x16 x17 x18 x19 x20 x21 x22 x23 x24 x25 x26 x27 x28 x29 x30 x31, L = [x0, x1, x2, x3, x4, x5, x6, x7, x8, x9, x10, x11, x12, x13, x14, x15, x16, x17, x18, x19, x20, x21, x22, x23, x24, x25, x26, x27, x28, x29, x30, x31] := by
  match L, h with
  | [x0, x1, x2, x3, x4, x5, x6, x7, x8, x9, x10, x11, x12, x13, x14, x15, x16, x17, x18, x19, x20, x21, x22, x23, x24, x25, x26, x27, x28, x29, x30, x31], _ => exact ⟨_, _, _, _, _, _, _, _, _, _, _, _, _, _, _, _, _, _, _, _, _, _, _, _, _, _, _, _, _, _, _, _, rfl⟩

set_option maxHeartbeats 2000000 in
theorem outPoint_any (w : World) (x0 x1 x2 x3 x4 x5 x6 x7 x8 x9 x10 x11 x12 x13 x14 x15 x16 x17 x18 x19 x20 x21 x22 x23 x24 x25 x26 x27 x28 x29 x30 x31 : Value) (idx : Int) (h1 : ∀ v ∈ [x0, x1, x2, x3, x4, x5, x6, x7, x8, x9, x10, x11, x12, x13, x14, x15, x16, x17, x18, x19, x20, x21, x22, x23, x24, x25, x26, x27, x28, x29, x30, x31], v.oneCell' = true) :
    Calls Tryz.prog 31 #[.agg (#[x0, x1, x2, x3, x4, x5, x6, x7, x8, x9, x10, x11, x12, x13, x14, x15, x16, x17, x18, x19, x20, x21, x22, x23, x24, x25, x26, x27, x28, x29, x30, x31, .int .u32 idx] : Array Value)] w fun e w' => e = .returned (.agg (#[x0, x1, x2, x3, x4, x5, x6, x7, x8, x9, x10, x11, x12, x13, x14, x15, x16, x17, x18, x19, x20, x21, x22, x23, x24, x25, x26, x27, x28, x29, x30, x31, .int .u32 idx] : Array Value)) ∧ Below w.heap.size w w' := by
  have hone : (#[x0, x1, x2, x3, x4, x5, x6, x7, x8, x9, x10, x11, x12, x13, x14, x15, x16, x17, x18, x19, x20, x21, x22, x23, x24, x25, x26, x27, x28, x29, x30, x31, .int .u32 idx] : Array Value).all (·.oneCell') = true := by
    simp only [List.mem_cons, List.not_mem_nil, or_false, forall_eq_or_imp, forall_eq] at h1
    simp [h1]
    rfl
  have HONE := Lib.hid hone
  clear h1 hone
  go_enter Tryz.func31, Tryz.ntmps31
  go_wp2_with (refine wpList_alloc 83 rfl rfl zeroOut.toArray (by kernel_rfl) ?_; refine Stop.mk ?_)
  refine Stop.go ?_
  have hb1 : Blk ((w.alloc (.cells (#[x0, x1, x2, x3, x4, x5, x6, x7, x8, x9, x10, x11, x12, x13, x14, x15, x16, x17, x18, x19, x20, x21, x22, x23, x24, x25, x26, x27, x28, x29, x30, x31, .int .u32 idx] : Array Value) 40)).alloc (.cells zeroOut.toArray 83)) w.heap.size 40 (#[x0, x1, x2, x3, x4, x5, x6, x7, x8, x9, x10, x11, x12, x13, x14, x15, x16, x17, x18, x19, x20, x21, x22, x23, x24, x25, x26, x27, x28, x29, x30, x31, .int .u32 idx] : Array Value) := (Blk.new w _ _).alloc _
  have hr : ((w.alloc (.cells (#[x0, x1, x2, x3, x4, x5, x6, x7, x8, x9, x10, x11, x12, x13, x14, x15, x16, x17, x18, x19, x20, x21, x22, x23, x24, x25, x26, x27, x28, x29, x30, x31, .int .u32 idx] : Array Value) 40)).alloc (.cells zeroOut.toArray 83)).rangeAt w.heap.size 0 [x0, x1, x2, x3, x4, x5, x6, x7, x8, x9, x10, x11, x12, x13, x14, x15, x16, x17, x18, x19, x20, x21, x22, x23, x24, x25, x26, x27, x28, x29, x30, x31] := fun j v hv => by
    rw [Nat.zero_add, hb1.cell j]
    have hj : j < 32 := (List.getElem?_eq_some_iff.1 hv).1
    have e : (#[x0, x1, x2, x3, x4, x5, x6, x7, x8, x9, x10, x11, x12, x13, x14, x15, x16, x17, x18, x19, x20, x21, x22, x23, x24, x25, x26, x27, x28, x29, x30, x31, .int .u32 idx] : Array Value) = ([x0, x1, x2, x3, x4, x5, x6, x7, x8, x9, x10, x11, x12, x13, x14, x15, x16, x17, x18, x19, x20, x21, x22, x23, x24, x25, x26, x27, x28, x29, x30, x31] ++ [Value.int .u32 idx]).toArray := rfl
    rw [e, List.getElem?_toArray, List.getElem?_append_left hj]
    exact hv
  have h32 : ((w.alloc (.cells (#[x0, x1, x2, x3, x4, x5, x6, x7, x8, x9, x10, x11, x12, x13, x14, x15, x16, x17, x18, x19, x20, x21, x22, x23, x24, x25, x26, x27, x28, x29, x30, x31, .int .u32 idx] : Array Value) 40)).alloc (.cells zeroOut.toArray 83)).cell? ⟨w.heap.size, 32, none⟩ = some (.int .u32 idx) := hb1.cell 32
  have HR := Lib.hid hr
  clear hr hb1
  go_wp2_with (refine wpList_load_mid rfl 22 (.tmp 3) rfl w.heap.size 0 rfl [x0, x1, x2, x3, x4, x5, x6, x7, x8, x9, x10, x11, x12, x13, x14, x15, x16, x17, x18, x19, x20, x21, x22, x23, x24, x25, x26, x27, x28, x29, x30, x31] _ HR.out und_hash rfl info_hash ?_; refine Stop.mk ?_)
  refine Stop.go ?_
  go_wp2_with (refine wpList_build 83 _ rfl rfl (.agg (#[x0, x1, x2, x3, x4, x5, x6, x7, x8, x9, x10, x11, x12, x13, x14, x15, x16, x17, x18, x19, x20, x21, x22, x23, x24, x25, x26, x27, x28, x29, x30, x31, .int .u32 idx] : Array Value)) (by kernel_rfl) ?_; refine Stop.mk ?_)
  refine Stop.go ?_
  clear h32 HR
  have hw1 : w.heap.size + 1 = (w.alloc (.cells (#[x0, x1, x2, x3, x4, x5, x6, x7, x8, x9, x10, x11, x12, x13, x14, x15, x16, x17, x18, x19, x20, x21, x22, x23, x24, x25, x26, x27, x28, x29, x30, x31, .int .u32 idx] : Array Value) 40)).heap.size := by simp
  have hlt : w.heap.size ≤ (w.alloc (.cells (#[x0, x1, x2, x3, x4, x5, x6, x7, x8, x9, x10, x11, x12, x13, x14, x15, x16, x17, x18, x19, x20, x21, x22, x23, x24, x25, x26, x27, x28, x29, x30, x31, .int .u32 idx] : Array Value) 40)).heap.size := by simp
  have hbel : Below w.heap.size w (w.alloc (.cells (#[x0, x1, x2, x3, x4, x5, x6, x7, x8, x9, x10, x11, x12, x13, x14, x15, x16, x17, x18, x19, x20, x21, x22, x23, x24, x25, x26, x27, x28, x29, x30, x31, .int .u32 idx] : Array Value) 40)) := (Below.refl _ _).alloc (Nat.le_refl _) _
  rw [hw1]
  generalize w.alloc (.cells (#[x0, x1, x2, x3, x4, x5, x6, x7, x8, x9, x10, x11, x12, x13, x14, x15, x16, x17, x18, x19, x20, x21, x22, x23, x24, x25, x26, x27, x28, x29, x30, x31, .int .u32 idx] : Array Value) 40) = W1 at *
  refine wpList_store_new (w := W1) rfl (.tmp 2) (.tmp 7) 83 rfl rfl _ (#[x0, x1, x2, x3, x4, x5, x6, x7, x8, x9, x10, x11, x12, x13, x14, x15, x16, x17, x18, x19, x20, x21, x22, x23, x24, x25, x26, x27, x28, x29, x30, x31, .int .u32 idx] : Array Value) rfl rfl info_wop rfl HONE.out ?_
  have HB := Lib.hid hbel
  clear hbel
  go_wp2
  exact bodyPost_ret (v := .agg (#[x0, x1, x2, x3, x4, x5, x6, x7, x8, x9, x10, x11, x12, x13, x14, x15, x16, x17, x18, x19, x20, x21, x22, x23, x24, x25, x26, x27, x28, x29, x30, x31, .int .u32 idx] : Array Value)) (results_cell_row rfl _ _ W1.heap.size _ _ _ _ rfl (heap_alloc_last W1 _) Tryz.underlying83 rfl info_wop) rfl ⟨rfl, HB.out.alloc hlt _⟩
end Go.Proofs.YtkgihpebghmnbaaGreatDoor

namespace Go.Proofs.YtkgihpebghmnbaaGreatDoor
open Go.RowKit Go.Proofs Go.Deep Go.ChangeShapes Go.WideShapes Go.Joins

set_option maxRecDepth 100000

section
variable {H : Type} {enc : TypeId × Value → H} {W : World} {fuel : Nat} {cs : List Value} {x : DataW H × List MemPlace}

theorem bytes_read (h : DataW.trod enc Tryz.prog W 0 (fun _ => true) true fuel 30 cs = some x) : ∃ A n c xs, cs = [.slice A n c] ∧ xs.length = n ∧ Rd W.heap.size W (.slice A n c) xs := by
  rcases open_ints Tryz.underlying30 Tryz.underlying5 (by kernel_rfl) h with ⟨rfl, -⟩ | ⟨a, len, cap, zs, rfl, -, hl, hm, hz, -, hcell, hwz⟩
  · exact ⟨none, 0, 0, [], rfl, rfl, Rd.nil _ _ _ _⟩
  · simp only [if_true] at hz
    obtain ⟨xs, h1, h2⟩ := row_read (W := W) (A := some a) hl hz hwz (fun a' e c hc => by injection e with e; subst e; exact hcell c (by omega)) (fun e => by cases e)
    exact ⟨some a, len, cap, xs, rfl, h1, h2⟩

theorem u8_wf {n : Int} (h : (Lit.int .u8 n).wf = true) : ∃ u : UInt8, n = (u.toNat : Int) := by
  have e1 : IntKind.u8.min = 0 := rfl
  have e2 : IntKind.u8.max = 255 := rfl
  simp [Lit.wf, e1, e2] at h
  exact ⟨UInt8.ofNat n.toNat, by simp; omega⟩

theorem hash_read (h : DataW.trod enc Tryz.prog W 0 (fun _ => true) true fuel 22 cs = some x) : ∃ hs : List UInt8, hs.length = 32 ∧ cs = bv hs := by
  obtain ⟨xs, m, -, -, hl, hxl, hf⟩ := DataW.trod_array Tryz.underlying22 h
  have hl : cs.length = 32 := hl.trans (by kernel_rfl)
  have hc : Tryz.prog.cellsOf 5 = 1 := by kernel_rfl
  have each : ∀ i, i < 32 → ∃ u : UInt8, cs[i]? = some (.int .u8 u.toNat) := fun i hi => by
    have g := hf i hi
    rw [hc, Nat.mul_one, take1_drop cs i undef (by omega), List.getElem?_eq_getElem (by omega)] at g
    obtain ⟨n, e, -, hw⟩ := DataW.trod_int Tryz.underlying5 g
    obtain ⟨u, rfl⟩ := u8_wf hw
    refine ⟨u, ?_⟩
    rw [List.getD_eq_getElem?_getD, List.getElem?_eq_getElem (show i < cs.length by omega)] at e
    simp only [Option.getD_some, List.cons.injEq, and_true] at e
    rw [List.getElem?_eq_getElem (show i < cs.length by omega), e]
  obtain ⟨f, hf2⟩ := choose_lt each
  refine ⟨(List.range 32).map f, by simp, ?_⟩
  apply List.ext_getElem?
  intro i
  rw [bv_get, List.getElem?_map]
  by_cases hi : i < 32
  · rw [hf2 i hi, List.getElem?_range hi]
    rfl
  · rw [List.getElem?_eq_none (by omega), List.getElem?_eq_none (by simp; omega)]
    rfl

theorem cut36 (d : Value) (h : cs.length = 36) : cs = cs.take 32 ++ [cs.getD 32 d, cs.getD 33 d, cs.getD 34 d, cs.getD 35 d] := by
  have e : ∀ i, i < 36 → cs.drop i = cs.getD i d :: cs.drop (i + 1) := fun i hi => by
    rw [List.drop_eq_getElem_cons (by omega), List.getD_eq_getElem?_getD, List.getElem?_eq_getElem (show i < cs.length by omega)]
    rfl
  conv => lhs; rw [← List.take_append_drop 32 cs, e 32 (by omega), e 33 (by omega), e 34 (by omega), e 35 (by omega), List.drop_eq_nil_of_le (show cs.length ≤ 35 + 1 by omega)]

theorem in_read (h : DataW.trod enc Tryz.prog W 0 (fun _ => true) true fuel 43 cs = some x) :
    ∃ (p : PI) (As : Option Addr) (c : Nat) (Aw : Option Addr) (cw : Nat) (wvs : List Value), cs = inImg p (.slice As p.scr.length c) (.slice Aw p.wit.length cw) ∧ Rd W.heap.size W (.slice As p.scr.length c) p.scr ∧ Cells W Aw p.wit.length wvs ∧ RdL W.heap.size W wvs p.wit := by
  obtain ⟨xs, m, -, -, hl, hxl, hf⟩ := DataW.trod_struct Tryz.underlying43 h
  have hl : cs.length = 36 := hl.trans (by kernel_rfl)
  have hx4 : xs.length = 4 := hxl
  have c0 : Tryz.prog.cellsOf 40 = 33 := by kernel_rfl
  have c1 : Tryz.prog.cellsOf 30 = 1 := by kernel_rfl
  have c2 : Tryz.prog.cellsOf 41 = 1 := by kernel_rfl
  have c3 : Tryz.prog.cellsOf 25 = 1 := by kernel_rfl
  have c4 : Tryz.prog.cellsOf 22 = 32 := by kernel_rfl
  have g0 := hf 0 _ rfl
  have g1 := hf 1 _ rfl
  have g2 := hf 2 _ rfl
  have g3 := hf 3 _ rfl
  change DataW.trod enc Tryz.prog W 0 (fun _ => true) true m 40 ((cs.drop 0).take (Tryz.prog.cellsOf 40)) = xs[0]? at g0
  change DataW.trod enc Tryz.prog W 0 (fun _ => true) true m 30 ((cs.drop 33).take (Tryz.prog.cellsOf 30)) = xs[1]? at g1
  change DataW.trod enc Tryz.prog W 0 (fun _ => true) true m 41 ((cs.drop 34).take (Tryz.prog.cellsOf 41)) = xs[2]? at g2
  change DataW.trod enc Tryz.prog W 0 (fun _ => true) true m 25 ((cs.drop 35).take (Tryz.prog.cellsOf 25)) = xs[3]? at g3
  rw [c0, List.drop_zero, List.getElem?_eq_getElem (by omega)] at g0
  rw [c1, take1_drop cs 33 undef (by omega), List.getElem?_eq_getElem (by omega)] at g1
  rw [c2, take1_drop cs 34 undef (by omega), List.getElem?_eq_getElem (by omega)] at g2
  rw [c3, take1_drop cs 35 undef (by omega), List.getElem?_eq_getElem (by omega)] at g3
  obtain ⟨ys, k, -, -, hyl, hy2, hg⟩ := DataW.trod_struct Tryz.underlying40 g0
  have hy2 : ys.length = 2 := hy2
  have k0 := hg 0 _ rfl
  have k1 := hg 1 _ rfl
  change DataW.trod enc Tryz.prog W 0 (fun _ => true) true k 22 (((cs.take 33).drop 0).take (Tryz.prog.cellsOf 22)) = ys[0]? at k0
  change DataW.trod enc Tryz.prog W 0 (fun _ => true) true k 25 (((cs.take 33).drop 32).take (Tryz.prog.cellsOf 25)) = ys[1]? at k1
  rw [c4, List.drop_zero, List.take_take, List.getElem?_eq_getElem (by omega)] at k0
  rw [c3, take1_drop (cs.take 33) 32 undef (by simp; omega), List.getElem?_eq_getElem (by omega)] at k1
  obtain ⟨hs, hsl, he⟩ := hash_read k0
  obtain ⟨i1, e1, -, -⟩ := DataW.trod_int Tryz.underlying25 k1
  obtain ⟨i3, e3, -, -⟩ := DataW.trod_int Tryz.underlying25 g3
  obtain ⟨As, n, c, scr, es, hn, hrd⟩ := bytes_read g1
  obtain ⟨nw, cw, Aw, wvs, wit, ew, -, hcw, hrw, -⟩ := rows_read g2
  subst hn
  have hwl : wit.length = nw := by rw [← hrw.1, hcw.1]
  subst hwl
  refine ⟨⟨hs, hsl, i1, scr, wit, i3⟩, As, c, Aw, cw, wvs, ?_, hrd, hcw, hrw⟩
  have e2 : (cs.take 33).getD 32 undef = cs.getD 32 undef := by
    rw [List.getD_eq_getElem?_getD, List.getD_eq_getElem?_getD, List.getElem?_take, if_pos (by omega)]
  rw [e2] at e1
  have he : cs.take 32 = bv hs := by rw [← he]; rfl
  rw [cut36 undef hl, he]
  simp only [List.cons.injEq, and_true] at e1 e3 es ew
  rw [e1, es, ew, e3]
  rfl

theorem out_read (h : DataW.trod enc Tryz.prog W 0 (fun _ => true) true fuel 34 cs = some x) :
    ∃ (p : TO) (As : Option Addr) (c : Nat), cs = [.int .i64 p.val, .slice As p.scr.length c] ∧ Rd W.heap.size W (.slice As p.scr.length c) p.scr := by
  obtain ⟨xs, m, -, -, hl, hxl, hf⟩ := DataW.trod_struct Tryz.underlying34 h
  have hl : cs.length = 2 := hl.trans (by kernel_rfl)
  have hx2 : xs.length = 2 := hxl
  have c1 : Tryz.prog.cellsOf 30 = 1 := by kernel_rfl
  have c3 : Tryz.prog.cellsOf 2 = 1 := by kernel_rfl
  have g0 := hf 0 _ rfl
  have g1 := hf 1 _ rfl
  change DataW.trod enc Tryz.prog W 0 (fun _ => true) true m 2 ((cs.drop 0).take (Tryz.prog.cellsOf 2)) = xs[0]? at g0
  change DataW.trod enc Tryz.prog W 0 (fun _ => true) true m 30 ((cs.drop 1).take (Tryz.prog.cellsOf 30)) = xs[1]? at g1
  rw [c3, take1_drop cs 0 undef (by omega), List.getElem?_eq_getElem (by omega)] at g0
  rw [c1, take1_drop cs 1 undef (by omega), List.getElem?_eq_getElem (by omega)] at g1
  obtain ⟨v, e0, -, -⟩ := DataW.trod_int Tryz.underlying2 g0
  obtain ⟨As, n, c, scr, es, hn, hrd⟩ := bytes_read g1
  subst hn
  refine ⟨⟨v, scr⟩, As, c, ?_, hrd⟩
  match cs, hl with
  | [a, b], _ =>
    simp at e0 es
    rw [e0, es]
end

/-- A transaction's value, and what lies behind it. -/
theorem tx_read {H : Type} {enc : TypeId × Value → H} {W : World} {r : Reach} {b0 : Nat} {v : Value} {d : DataW H} {ps : List MemPlace} (hv : Value.okWide Tryz.prog W r b0 27 v) (h : DataW.Trod enc Tryz.prog W 0 (fun _ => true) true 27 v d ps) :
    ∃ (Ai Ao : Option Addr) (ci co : Nat) (p : PT), v = .agg #[.int .i32 p.ver, .slice Ai p.ins.length ci, .slice Ao p.outs.length co, .int .u32 p.lock] ∧ SrcTx W.heap.size W Ai Ao p := by
  obtain ⟨v0, v1, v2, v3, y0, y1, y2, y3, n, rfl, -, -, t0, t1, t2, t3⟩ := open_agg4 Tryz.underlying27 (by kernel_rfl) (by kernel_rfl) hv h
  obtain ⟨ver, e0, -, -⟩ := DataW.trod_int Tryz.underlying21 t0
  obtain ⟨lock, e3, -, -⟩ := DataW.trod_int Tryz.underlying25 t3
  simp only [List.cons.injEq, and_true] at e0 e3
  subst e0
  subst e3
  have ce1 : Tryz.prog.cellsOf 43 = 36 := by kernel_rfl
  have ce2 : Tryz.prog.cellsOf 34 = 2 := by kernel_rfl
  have hI : ∃ Ai ci ins, v1 = .slice Ai (List.length ins) ci ∧ (0 < List.length ins → ∃ b o, Ai = some ⟨b, o, none⟩ ∧ ∀ j pj, ins[j]? = some pj → SrcIn W.heap.size W b (o + j * 36) pj) := by
    rcases open_slice Tryz.underlying23 t1 with ⟨e, -⟩ | ⟨a, len, cap, m, k, D, Pl, e, -, hlc, -, hm, -, hx⟩
    · simp only [List.cons.injEq, and_true] at e
      exact ⟨none, 0, [], e, fun h => absurd h (by simp)⟩
    · simp only [List.cons.injEq, and_true] at e
      subst e
      simp only [if_true] at hm
      letI : Inhabited PI := ⟨⟨List.replicate 32 0, rfl, 0, [], [], 0⟩⟩
      have each : ∀ i, i < len → ∃ p : PI, ∃ (As : Option Addr) (c : Nat) (Aw : Option Addr) (cw : Nat) (wvs : List Value), (∀ j u, (inImg p (.slice As p.scr.length c) (.slice Aw p.wit.length cw))[j]? = some u → W.cell? (a.add (i * 36 + j)) = some u) ∧ Rd W.heap.size W (.slice As p.scr.length c) p.scr ∧ Cells W Aw p.wit.length wvs ∧ RdL W.heap.size W wvs p.wit := fun i hi => by
        obtain ⟨cs', h1, h2⟩ := hx i (by omega)
        rw [ce1] at h1
        obtain ⟨-, hcl, hcell⟩ := World.cells?_some h1
        obtain ⟨p, As, c, Aw, cw, wvs, e, q1, q2, q3⟩ := in_read h2
        refine ⟨p, As, c, Aw, cw, wvs, fun j u hj => ?_, q1, q2, q3⟩
        rw [← e] at hj
        have hjl := (List.getElem?_eq_some_iff.1 hj).1
        rw [← add_add, hcell j (by omega)]
        exact hj
      obtain ⟨f, hf⟩ := choose_lt each
      refine ⟨some a, cap, (List.range len).map f, by simp, fun h0 => ?_⟩
      have hlen : 0 < len := by simpa using h0
      have hsp : a = ⟨a.block, a.off, none⟩ := by
        obtain ⟨As, c, Aw, cw, wvs, q0, -⟩ := hf 0 hlen
        have h32 := (f 0).hl
        have hc : W.cell? (a.add (0 * 36 + 0)) = some (.int .u8 ((f 0).h[0]'(by omega)).toNat) := q0 0 _ (by
          unfold inImg
          rw [List.getElem?_append_left (by rw [bv_length]; omega), bv_get, List.getElem?_eq_getElem (by omega)]
          rfl)
        have hs := World.cell?_spot hc
        have hs2 : a.spot = none := by simpa [Addr.add] using hs
        exact addr_spot hs2
      refine ⟨a.block, a.off, by rw [← hsp], fun j pj hj => ?_⟩
      rw [List.getElem?_map] at hj
      by_cases hjl : j < len
      · rw [List.getElem?_range hjl] at hj
        simp at hj
        subst hj
        obtain ⟨As, c, Aw, cw, wvs, q0, q1, q2, q3⟩ := hf j hjl
        refine ⟨As, c, Aw, cw, wvs, fun i u hu => ?_, q1, q2, q3⟩
        have := q0 i u hu
        rw [hsp, addr_add] at this
        rw [Nat.add_assoc]
        exact this
      · rw [List.getElem?_eq_none (by simp; omega)] at hj
        cases hj
  have hO : ∃ Ao co outs, v2 = .slice Ao (List.length outs) co ∧ (0 < List.length outs → ∃ b o, Ao = some ⟨b, o, none⟩ ∧ ∀ j pj, outs[j]? = some pj → SrcOut W.heap.size W b (o + j * 2) pj) := by
    rcases open_slice Tryz.underlying24 t2 with ⟨e, -⟩ | ⟨a, len, cap, m, k, D, Pl, e, -, hlc, -, hm, -, hx⟩
    · simp only [List.cons.injEq, and_true] at e
      exact ⟨none, 0, [], e, fun h => absurd h (by simp)⟩
    · simp only [List.cons.injEq, and_true] at e
      subst e
      simp only [if_true] at hm
      letI : Inhabited TO := ⟨⟨0, []⟩⟩
      have each : ∀ i, i < len → ∃ p : TO, ∃ (As : Option Addr) (c : Nat), (W.cell? (a.add (i * 2)) = some (.int .i64 p.val) ∧ W.cell? (a.add (i * 2 + 1)) = some (.slice As p.scr.length c)) ∧ Rd W.heap.size W (.slice As p.scr.length c) p.scr := fun i hi => by
        obtain ⟨cs', h1, h2⟩ := hx i (by omega)
        rw [ce2] at h1
        obtain ⟨-, hcl, hcell⟩ := World.cells?_some h1
        obtain ⟨p, As, c, e, q1⟩ := out_read h2
        subst e
        have c0 := hcell 0 (by omega)
        have c1 := hcell 1 (by omega)
        rw [add_add] at c0 c1
        exact ⟨p, As, c, ⟨c0, c1⟩, q1⟩
      obtain ⟨f, hf⟩ := choose_lt each
      refine ⟨some a, cap, (List.range len).map f, by simp, fun h0 => ?_⟩
      have hlen : 0 < len := by simpa using h0
      have hsp : a = ⟨a.block, a.off, none⟩ := by
        obtain ⟨As, c, ⟨hc, -⟩, -⟩ := hf 0 hlen
        have hs := World.cell?_spot hc
        have hs2 : a.spot = none := by simpa [Addr.add] using hs
        exact addr_spot hs2
      refine ⟨a.block, a.off, by rw [← hsp], fun j pj hj => ?_⟩
      rw [List.getElem?_map] at hj
      by_cases hjl : j < len
      · rw [List.getElem?_range hjl] at hj
        simp at hj
        subst hj
        obtain ⟨As, c, ⟨q0, q1⟩, q2⟩ := hf j hjl
        rw [hsp, addr_add] at q0 q1
        exact ⟨As, c, q0, by rw [Nat.add_assoc]; exact q1, q2⟩
      · rw [List.getElem?_eq_none (by simp; omega)] at hj
        cases hj
  obtain ⟨Ai, ci, ins, rfl, hins⟩ := hI
  obtain ⟨Ao, co, outs, rfl, houts⟩ := hO
  exact ⟨Ai, Ao, ci, co, ⟨ver, ins, outs, lock⟩, rfl, hins, houts⟩

theorem okWide_arr {P : Program} {w : World} {r : Reach} {base : Nat} {t e : TypeId} {n : Nat} {v : Value} (ht : P.underlying t = some (.array n e)) (h : Value.okWide P w r base t v) : ∃ cs, v = .agg cs ∧ cs.size = P.cellsOf t := by
  simp only [Value.okWide, ht] at h
  obtain ⟨cs, h1, h2, _⟩ := h
  exact ⟨cs, h1, h2⟩
/-- 32 bytes by value. -/
theorem short_read {H : Type} {enc : TypeId × Value → H} {W : World} {r : Reach} {b0 : Nat} {v : Value} {d : DataW H} {ps : List MemPlace} (hv : Value.okWide Tryz.prog W r b0 22 v) (h : DataW.Trod enc Tryz.prog W 0 (fun _ => true) true 22 v d ps) :
    ∃ sh : List UInt8, sh.length = 32 ∧ v = .agg (bv sh).toArray := by
  obtain ⟨cs, rfl, hsz⟩ := okWide_arr Tryz.underlying22 hv
  obtain ⟨fuel, hf⟩ := h
  obtain ⟨hs, hl, he⟩ := hash_read hf
  refine ⟨hs, hl, ?_⟩
  have he : cs.toList = bv hs := by simpa [Value.cells] using he
  rw [← he]
end Go.Proofs.YtkgihpebghmnbaaGreatDoor

namespace Go.Proofs.YtkgihpebghmnbaaGreatDoor
open Go.RowKit Go.Proofs

set_option maxRecDepth 100000

theorem tokOp_any (w : World) (b o ob : Nat) (v : Int) (h4 : w.cell? ⟨b, o + 4, none⟩ = some (.pointer (some ⟨ob, 0, none⟩))) (h0 : w.cell? ⟨ob, 0, none⟩ = some (.int .u8 v)) :
    Calls Tryz.prog 71 #[.pointer (some ⟨b, o, none⟩)] w fun e w' => e = .returned (.int .u8 v) ∧ w' = w := by
  go_enter Tryz.func71, Tryz.ntmps71
  go_wp2
  go_ret
  exact ⟨rfl, rfl⟩
theorem tokAt_any (w : World) (b o : Nat) (v : Int) (h2 : w.cell? ⟨b, o + 2, none⟩ = some (.int .i32 v)) :
    Calls Tryz.prog 72 #[.pointer (some ⟨b, o, none⟩)] w fun e w' => e = .returned (.int .i32 v) ∧ w' = w := by
  go_enter Tryz.func72, Tryz.ntmps72
  go_wp2
  go_ret
  exact ⟨rfl, rfl⟩
theorem tokData_any (w : World) (b o : Nat) (v : Value) (h5 : w.cell? ⟨b, o + 5, none⟩ = some v) (hv : ∃ A n c, v = .slice A n c) :
    Calls Tryz.prog 57 #[.pointer (some ⟨b, o, none⟩)] w fun e w' => e = .returned v ∧ w' = w := by
  obtain ⟨A, n, c, rfl⟩ := hv
  go_enter Tryz.func57, Tryz.ntmps57
  go_wp2
  go_ret
  exact ⟨rfl, rfl⟩

/-- The cells of a token that has been taken. -/
theorem tokSet_get {cs : Array Value} {o off : Nat} {sl : Value} {pos p : Int} {x : Nat} {op d : Value} (h : TokC cs o sl off pos) :
    (tokSet cs o p x op d)[o + 4]? = some op ∧ (tokSet cs o p x op d)[o + 5]? = some d ∧ (tokSet cs o p x op d)[o + 2]? = some (.int .i32 x) := by
  obtain ⟨c0, ⟨v1, c1⟩, c2, c3, ⟨v4, c4⟩, ⟨v5, c5⟩, c6⟩ := h
  unfold tokSet
  exact ⟨get_set (get_here (get_set (get_set c4 (by omega)) (by omega))) (by omega), get_here (get_set (get_set (get_set c5 (by omega)) (by omega)) (by omega)), get_set (get_set (get_here (get_set c2 (by omega))) (by omega)) (by omega)⟩

theorem nil_eq (w : World) : (binOp .eql 30 (.slice none 0 0) (.slice none 0 0)).run Tryz.prog w = .ok (.bool true) w := by kernel_rfl
theorem nil_ne (w : World) : (binOp .neq 30 (.slice none 0 0) (.slice none 0 0)).run Tryz.prog w = .ok (.bool false) w := by kernel_rfl
theorem code_len_le (ds : List Tok) : ds.length ≤ (code ds).length := by
  induction ds with
  | nil => simp
  | cons d ds ih => have := d.enc_pos; simp only [code, List.length_cons, List.length_append]; omega

set_option maxHeartbeats 2000000 in
/-- A script without the opcode stays as it is. -/
theorem removeRaw_any (w : World) (n c : Nat) (A : Option Addr) (ts : List Tok) (op : Nat) (hrd : Rd 0 w (.slice A n c) (code ts)) (hts : ∀ t ∈ ts, TokS t) (hop : ∀ t ∈ ts, t.op ≠ op) (hn0 : 0 < n) (hn : n ≤ 100000) :
    Calls Tryz.prog 43 #[.slice A n c, .int .u8 op] w fun e w' => e = .returned (.slice A n c) ∧ Below w.heap.size w w' := by
  have HR := Lib.hid hrd
  have HT := Lib.hid hts
  have HO := Lib.hid hop
  have HL := Lib.hid hrd.len
  have hn1 : ¬ ((n : Int) = 0) := by omega
  have hnq := nil_eq
  have hnn := nil_ne
  clear hrd hts hop
  go_enter Tryz.func43, Tryz.ntmps43
  go_wp2_with fail
  refine (mkTok_any w A n c).mono ?_
  rintro e w1 ⟨rfl, hb1⟩
  have HB1 := Lib.hid hb1
  clear hb1
  go_wp2_with fail
  have hblk := Blk.new w1 104 #[.slice A n c, .int .u16 0, .int .i32 0, .int .i32 (-1), .pointer none, .slice none 0 0, .nilIface]
  have hbel : Below w.heap.size w (w1.alloc (.cells #[.slice A n c, .int .u16 0, .int .i32 0, .int .i32 (-1), .pointer none, .slice none 0 0, .nilIface] 104)) := HB1.out.alloc HB1.out.size _
  have hT : w.heap.size ≤ w1.heap.size := HB1.out.size
  generalize w1.heap.size = T at *
  have HI : Hid (∃ done rest cs, ts = done ++ rest ∧ ts.length = rest.length ∧ Blk (w1.alloc (.cells #[.slice A n c, .int .u16 0, .int .i32 0, .int .i32 (-1), .pointer none, .slice none 0 0, .nilIface] 104)) T 104 cs ∧
      TokC cs 0 (.slice A n c) (code done).length ((done.length : Int) - 1) ∧ Below w.heap.size w (w1.alloc (.cells #[.slice A n c, .int .u16 0, .int .i32 0, .int .i32 (-1), .pointer none, .slice none 0 0, .nilIface] 104))) :=
    ⟨[], ts, _, rfl, rfl, hblk, ⟨rfl, ⟨_, rfl⟩, rfl, rfl, ⟨_, rfl⟩, ⟨_, rfl⟩, rfl⟩, hbel⟩
  clear hblk hbel
  generalize w1.alloc (.cells #[.slice A n c, .int .u16 0, .int .i32 0, .int .i32 (-1), .pointer none, .slice none 0 0, .nilIface] 104) = w2 at *
  go_loopg [5, 6] (ts.length + 1) (fun k s5 s6 wx => ∃ done rest cs, ts = done ++ rest ∧ k = rest.length + 1 ∧ s5 = .slice none 0 0 ∧ (∃ y : Int, s6 = .int .i32 y) ∧ Blk wx T 104 cs ∧
      TokC cs 0 (.slice A n c) (code done).length ((done.length : Int) - 1) ∧ Below w.heap.size w wx)
  case atStart =>
    obtain ⟨done, rest, cs, h1, h2, h3⟩ := HI.out
    exact ⟨done, rest, cs, h1, by rw [h2], rfl, ⟨_, rfl⟩, h3⟩
  case round =>
    obtain ⟨done, rest, cs, hts, rfl, rfl, ⟨y, rfl⟩, hblk, hC, hbel⟩ := hrel
    have hrd' : Rd 0 wr (.slice A n c) (code ts) := HR.out.below hbel
    have hcl : (code ts).length = n := HL.out.1.symm
    have hdl : done.length ≤ n := by
      have h1 := code_len_le done
      have h2 := congrArg List.length (code_append done rest)
      rw [← hts] at h2
      simp at h2
      omega
    cases rest with
    | nil =>
      have hoff : (code done).length = n := by rw [← hcl, hts]; simp
      rw [hoff] at hC
      have HN := Lib.hid (next_end wr T 0 n c A cs _ _ hblk hC hn)
      have HX := Lib.hid hbel
      clear hblk hC hbel hrd' HI
      go_wp2_with fail
      refine HN.out.mono ?_
      rintro e w3 ⟨rfl, k3, rfl⟩
      have HX' := HX.out
      go_wp2
      go_ret
      exact ⟨rfl, ⟨HX'.os, HX'.tape, HX'.output, HX'.size, HX'.block⟩⟩
    | cons t rest =>
      have hdrop : (code ts).drop (code done).length = t.enc ++ code rest := by
        rw [hts, code_append]; simp [code]
      have hto : ¬ ((t.op : Int) = (op : Int)) := by have := HO.out t (by rw [hts]; simp); omega
      have HN := Lib.hid (next_tok wr T 0 _ n c (code done).length A cs _ t (code ts) (code rest) hblk hC hrd' (fun ds t' fr hh => by
        unfold Blk at hblk; rw [hblk] at hh; injection hh with hh; injection hh with _ e; subst e; simp [Sx]) hdrop (HT.out t (by rw [hts]; simp)) hn (by omega) (by omega))
      have HX := Lib.hid hbel
      have HC := Lib.hid hC
      clear hblk hC hbel hrd' HI
      go_wp2_with fail
      refine HN.out.mono ?_
      rintro e w3 ⟨rfl, nm, ⟨ln, hob⟩, dA, dc, -, hblk3, hf3⟩
      obtain ⟨g4, g5, g2⟩ := tokSet_get (p := (done.length : Int) - 1 + 1) (x := (code done).length + t.enc.length) (op := .pointer (some ⟨wr.heap.size, 0, none⟩)) (d := .slice dA t.data.length dc) HC.out
      have HOp := Lib.hid (tokOp_any w3 T 0 wr.heap.size t.op ((hblk3.cell _).trans g4) (hob.cell 0))
      have HAt := Lib.hid (tokAt_any w3 T 0 _ ((hblk3.cell _).trans g2))
      have hblk3 := Lib.hid hblk3
      have hf3 := Lib.hid (Below.fm HX.out hf3 HX.out.size (fun j hj hm => by unfold M1 at hm; omega))
      clear hob g4 g5 g2
      go_wp2_with fail
      refine HOp.out.mono ?_
      rintro e w4 ⟨rfl, rfl⟩
      go_wp2_with fail
      refine HAt.out.mono ?_
      rintro e w5 ⟨rfl, rfl⟩
      go_wp2_with fail
      go_roundg (rest.length + 1)
      case measure => simp
      case rel =>
        refine ⟨done ++ [t], rest, _, by rw [hts]; simp, rfl, rfl, ⟨_, rfl⟩, hblk3.out, ?_, hf3.out⟩
        have hc := HC.out.next ((code done).length + t.enc.length) ((done.length : Int) - 1 + 1) (.pointer (some ⟨wr.heap.size, 0, none⟩)) (.slice dA t.data.length dc)
        have e1 : (code (done ++ [t])).length = (code done).length + t.enc.length := by rw [code_append]; simp [code]
        have e2 : (((done ++ [t]).length : Nat) : Int) - 1 = (done.length : Int) - 1 + 1 := by simp
        rw [e1, e2]
        exact hc
end Go.Proofs.YtkgihpebghmnbaaGreatDoor
