/- The machine's state, and what its small opcodes leave. -/
import Derived.Test.YtafpgikhcjildaaGreatDoorNum
import Derived.Test.YtafpgikhcjildaaGreatDoorRuns
import Derived.Test.YtafpgikhcjildaaGreatDoorTok
namespace Go.Proofs.YtafpgikhcjildaaGreatDoor
open Go.RowKit Go.Proofs

set_option maxRecDepth 100000

/-- From which block on rows of elements may turn, and which of them may not. -/
structure Bd where
  n : Nat
  x : Nat → Prop
/-- The bound fits the world. -/
structure Bd.Ok (B : Bd) (w : World) : Prop where
  le_ : B.n ≤ w.heap.size
  lt_ : ∀ k, B.x k → k < w.heap.size
theorem Bd.Ok.le {B : Bd} {w w' : World} (h : Bd.Ok B w) (hs : w.heap.size ≤ w'.heap.size) : Bd.Ok B w' := ⟨Nat.le_trans h.le_ hs, fun k hk => Nat.lt_of_lt_of_le (h.lt_ k hk) hs⟩

/-- What a step of the machine may turn: its own block, and rows of elements from block B on, but those that are kept. -/
def Mx (g : Nat) (B : Bd) (w : World) (k : Nat) : Prop := k = g ∨ (B.n ≤ k ∧ ¬ B.x k ∧ ∃ cs fr, w.heap[k]? = some (.cells cs 24 fr))
def Fs (g : Nat) (B : Bd) (w w' : World) : Prop := Fm (Mx g B w) w w'

section
variable {g : Nat} {B : Bd} {b : Nat} {w w' w'' : World} {t : TypeId} {cs ds : Array Value} {xss : List (List UInt8)}
theorem Fs.refl (g : Nat) (B : Bd) (w : World) : Fs g B w w := Fm.refl _ _
theorem Fs.trans (h : Fs g B w w') (k : Fs g B w' w'') : Fs g B w w'' := by
  refine Fm.trans' h k fun j hj hm => ?_
  by_cases h0 : Mx g B w j
  · exact h0
  · rcases hm with rfl | ⟨hB, hX, cs, fr, hh⟩
    · exact .inl rfl
    · exact .inr ⟨hB, hX, cs, fr, by rw [← h.block j hj h0]; exact hh⟩
theorem Fs.of_m1 (h : Fm (M1 g) w w') : Fs g B w w' := h.mono fun _ _ hm => .inl hm
theorem Fs.of_m2 {v : Value} {base n : Nat} {xs : List Value} (h : Fm (M2 g v) w w') (ho : w.ownsRow base 24 1 v n xs) (hb : B.n ≤ base) (hx : ∀ k, v.ownBlock = some k → ¬ B.x k) : Fs g B w w' := by
  refine h.mono fun j _ hm => ?_
  rcases hm with rfl | hv
  · exact .inl rfl
  · rcases ho.2 with ⟨rfl, _⟩ | ⟨g', cap, cur, rfl, hbg, hgg, _⟩
    · simp [Value.ownBlock] at hv
    · have : g' = j := by simpa [Value.ownBlock] using hv
      subst this
      exact .inr ⟨by omega, hx _ rfl, cur, (0, 0), hgg⟩
theorem Fs.of_below (h : Below w.heap.size w w') : Fs g B w w' := Fm.of_below h
theorem Fs.below (h : Fs g B w w') (k : Below w'.heap.size w' w'') : Fs g B w w'' := h.trans (Fs.of_below k)
theorem Fs.drewN (h : Fs g B w w') (n : Nat) : Fs g B w (w'.drewN n) := Fm.drewN h n
theorem Fs.drew (h : Fs g B w w') : Fs g B w w'.drew := Fm.drew h
theorem Fs.set (h : Fs g B w w') (i : Nat) (u : Value) : Fs g B w (w'.setCell ⟨g, i, none⟩ u) := Fm.setCell (M := Mx g B w) (p := ⟨g, i, none⟩) h (fun _ => .inl rfl) u
theorem Fs.rd {v : Value} {bs : List UInt8} (h : Fs g B w w') (hg : Blk w g 84 cs) (hr : Rd 0 w v bs) : Rd 0 w' v bs := by
  refine hr.fm h fun k _ hm => ⟨Nat.zero_le _, ?_⟩
  rcases hm with rfl | ⟨_, _, ds, fr, hh⟩
  · exact ⟨cs, _, _, hg, by simp [Sx]⟩
  · exact ⟨ds, _, fr, hh, by simp [Sx]⟩
theorem Fs.rdl {vs : List Value} (h : Fs g B w w') (hg : Blk w g 84 cs) (hr : RdL 0 w vs xss) : RdL 0 w' vs xss := ⟨hr.1, fun i v xs h1 h2 => h.rd hg (hr.2 i v xs h1 h2)⟩
theorem Fs.blk (h : Fs g B w w') (hb : Blk w b t ds) (hg : b ≠ g) (ho : b < B.n ∨ t ≠ 24) : Blk w' b t ds := by
  refine hb.fm h ?_
  rintro (e | ⟨hB, hX, cs, fr, hh⟩)
  · exact hg e
  · rcases ho with ho | ho
    · omega
    · unfold Blk at hb
      rw [hb] at hh
      injection hh with hh
      injection hh with _ e
      exact ho e

/-- All cells but that of the stack's row are as they were. -/
def K23 (cs cs' : Array Value) : Prop := ∀ i, i ≠ 23 → cs'[i]? = cs[i]?
theorem K23.refl (cs : Array Value) : K23 cs cs := fun _ _ => rfl
theorem K23.set (cs : Array Value) (u : Value) : K23 cs (cs.setIfInBounds 23 u) := fun i hi => by
  rw [Array.getElem?_setIfInBounds, if_neg (fun h => hi h.symm)]
theorem K23.trans {a b c : Array Value} (h : K23 a b) (k : K23 b c) : K23 a c := fun i hi => (k i hi).trans (h i hi)

/-- The machine g with these elements on its stack. -/
structure Vm (w : World) (g : Nat) (B : Bd) (cs : Array Value) (xss : List (List UInt8)) : Prop where
  blk : Blk w g 84 cs
  base : Bd.Ok B w
  free : ∀ (v : Value) (k : Nat), cs[23]? = some v → v.ownBlock = some k → ¬ B.x k
  stk : ∃ A c items, cs[23]? = some (.slice A xss.length c) ∧ w.ownsRow B.n 24 1 (.slice A xss.length c) xss.length items ∧ RdL 0 w items xss

theorem Vm.below (h : Vm w g B cs xss) (k : Below w.heap.size w w') : Vm w' g B cs xss := by
  obtain ⟨A, c, items, h1, h2, h3⟩ := h.stk
  exact ⟨h.blk.below k h.blk.lt, h.base.le k.size, h.free, A, c, items, h1, own_below h2 k, h3.below k⟩
theorem Vm.drewN (h : Vm w g B cs xss) (n : Nat) : Vm (w.drewN n) g B cs xss := by
  obtain ⟨A, c, items, h1, h2, h3⟩ := h.stk
  exact ⟨h.blk, ⟨h.base.le_, h.base.lt_⟩, h.free, A, c, items, h1, h2, h3⟩
/-- A cell that is not the stack's is stored. -/
theorem Vm.set (h : Vm w g B cs xss) (i : Nat) (u : Value) (hi : i ≠ 23) : Vm (w.setCell ⟨g, i, none⟩ u) g B (cs.setIfInBounds i u) xss := by
  obtain ⟨A, c, items, h1, h2, h3⟩ := h.stk
  refine ⟨h.blk.set_ i u, ⟨by simpa [World.setCell] using h.base.le_, fun k hk => by simpa [World.setCell] using h.base.lt_ k hk⟩, fun v k hv => h.free v k (by rwa [Array.getElem?_setIfInBounds, if_neg hi] at hv), A, c, items, ?_, own_set h2 (p := ⟨g, i, none⟩) h.blk (by decide) u, ?_⟩
  · rw [Array.getElem?_setIfInBounds, if_neg hi]; exact h1
  · exact ((Fs.refl g B w).set i u).rdl h.blk h3
/-- The same machine where other blocks have turned. -/
theorem Vm.m1 {b : Nat} (h : Vm w g B cs xss) (k : Fm (M1 b) w w') (hb : b ≠ g) (ht : ∃ ds t fr, w.heap[b]? = some (.cells ds t fr) ∧ t ≠ 24 ∧ t ∈ Sx) : Vm w' g B cs xss := by
  obtain ⟨A, c, items, h1, h2, h3⟩ := h.stk
  obtain ⟨ds, t, fr, hh, ht, hs⟩ := ht
  refine ⟨h.blk.fm k (fun e => hb e.symm), h.base.le k.size, h.free, A, c, items, h1, own_fm h2 k ?_, ⟨h3.1, fun i v xs a1 a2 => (h3.2 i v xs a1 a2).fm k ?_⟩⟩
  · rintro j hj rfl
    rcases h2.2 with ⟨e, _⟩ | ⟨g', cap, cur, e, hbg, hgg, _⟩
    · rw [e] at hj; simp [Value.ownBlock] at hj
    · rw [e] at hj
      have : g' = j := by simpa [Value.ownBlock] using hj
      subst this
      rw [hgg] at hh
      injection hh with hh
      injection hh with _ e2
      exact ht e2.symm
  · rintro j _ rfl
    exact ⟨Nat.zero_le _, ds, t, fr, hh, hs⟩
end

theorem free_here {cs : Array Value} {X : Nat → Prop} {A : Option Addr} {n m c : Nat} (h1 : cs[23]? = some (.slice A n c)) (hf : ∀ (v : Value) (k : Nat), cs[23]? = some v → v.ownBlock = some k → ¬ X k) :
    ∀ (v : Value) (k : Nat), (cs.setIfInBounds 23 (.slice A m c))[23]? = some v → v.ownBlock = some k → ¬ X k := fun v k hv hk => by
  rw [get_here h1] at hv
  injection hv with hv
  subst hv
  exact hf _ k h1 (by cases A <;> exact hk)

/-- PushByteArray of the machine's stack. -/
theorem push_vm (w : World) (g : Nat) (B : Bd) (cs : Array Value) (xss : List (List UInt8)) (v : Value) (xs : List UInt8) (h : Vm w g B cs xss) (hv : Rd 0 w v xs) (hn : xss.length ≤ 100000) :
    Calls Tryz.prog 149 #[.pointer (some ⟨g, 23, none⟩), v] w fun e w' => e = .returned (.tuple #[]) ∧
      ∃ cs', Vm w' g B cs' (xss ++ [xs]) ∧ K23 cs cs' ∧ Fs g B w w' := by
  obtain ⟨A, c, items, h1, h2, h3⟩ := h.stk
  obtain ⟨As, c', rfl, hc'⟩ := hv.slice
  refine (push_any w g 23 _ B.n xss.length cs A As c xs.length c' items h.blk h1 h2 (by decide) hn h.base.le_).mono ?_
  rintro e w' ⟨rfl, A', cc, hb, ho, hf, hat⟩
  have hfs : Fs g B w w' := Fs.of_m2 hf h2 (Nat.le_refl _) (fun k hk => h.free _ k h1 hk)
  refine ⟨rfl, _, ⟨hb, h.base.le hf.size, fun v k hv hk => ?_, A', cc, items ++ [.slice As xs.length c'], ?_, ?_, ?_⟩, K23.set _ _, hfs⟩
  · rw [get_here h1] at hv
    injection hv with hv
    subst hv
    rcases hat with e | e | e
    · exact h.free _ k h1 (e ▸ hk)
    · rw [e] at hk
      injection hk with hk
      intro hx
      have := h.base.lt_ k hx
      omega
    · rw [e] at hk
      injection hk with hk
      intro hx
      have := h.base.lt_ k hx
      omega
  · rw [List.length_append]; exact get_here h1
  · simpa using ho
  · exact (hfs.rdl h.blk h3).snoc (hfs.rd h.blk hv)

theorem pop_vm (w : World) (g : Nat) (B : Bd) (cs : Array Value) (xss : List (List UInt8)) (xs : List UInt8) (h : Vm w g B cs (xss ++ [xs])) (hn : xss.length ≤ 100000) :
    Calls Tryz.prog 64 #[.pointer (some ⟨g, 23, none⟩)] w fun e w' => ∃ v, e = .returned (.tuple #[v, .nilIface]) ∧ Rd 0 w' v xs ∧
      ∃ cs', Vm w' g B cs' xss ∧ K23 cs cs' ∧ Fs g B w w' := by
  obtain ⟨A, c, items, h1, h2, h3⟩ := h.stk
  have hl : items.length = xss.length + 1 := by rw [h3.1]; simp
  obtain ⟨its, x, rfl⟩ : ∃ its x, items = its ++ [x] := ⟨items.dropLast, items.getLast (by intro e; simp [e] at hl), (List.dropLast_concat_getLast _).symm⟩
  obtain ⟨h4, h5⟩ := h3.init
  obtain ⟨Ax, cx, rfl, hcx⟩ := h5.slice
  have e : (xss ++ [xs]).length = xss.length + 1 := by simp
  rw [e] at h1 h2
  refine (pop_any w g 23 _ B.n xss.length cs A Ax c xs.length cx its h.blk h1 h2 (by decide) hn).mono ?_
  rintro e w' ⟨rfl, hb, ho, hf⟩
  have hfs : Fs g B w w' := Fs.of_m1 hf
  exact ⟨_, rfl, hfs.rd h.blk h5, _, ⟨hb, h.base.le hf.size, free_here h1 h.free, A, c, its, get_here h1, ho, hfs.rdl h.blk h4⟩, K23.set _ _, hfs⟩

theorem peek_vm (w : World) (g : Nat) (B : Bd) (cs : Array Value) (xss : List (List UInt8)) (xs : List UInt8) (h : Vm w g B cs (xss ++ [xs])) (hn : xss.length ≤ 100000) :
    Calls Tryz.prog 148 #[.pointer (some ⟨g, 23, none⟩), .int .i32 0] w fun e w' => ∃ A c, e = .returned (.tuple #[.slice A xs.length c, .nilIface]) ∧ Rd 0 w (.slice A xs.length c) xs ∧ w = w' := by
  obtain ⟨A, c, items, h1, h2, h3⟩ := h.stk
  have hl : items.length = xss.length + 1 := by rw [h3.1]; simp
  obtain ⟨its, x, rfl⟩ : ∃ its x, items = its ++ [x] := ⟨items.dropLast, items.getLast (by intro e; simp [e] at hl), (List.dropLast_concat_getLast _).symm⟩
  obtain ⟨h4, h5⟩ := h3.init
  obtain ⟨Ax, cx, rfl, hcx⟩ := h5.slice
  have e : (xss ++ [xs]).length = xss.length + 1 := by simp
  rw [e] at h1 h2
  refine (peek0_any w g 23 _ B.n xss.length cs A Ax c xs.length cx its h.blk h1 h2 hn).mono ?_
  rintro e w' ⟨rfl, rfl⟩
  exact ⟨_, _, rfl, h5, rfl⟩

/-- What an opcode leaves that runs well. -/
def Leaves (w : World) (g : Nat) (B : Bd) (cs : Array Value) (xss : List (List UInt8)) (e : Ending) (w' : World) : Prop :=
  e = .returned .nilIface ∧ ∃ cs', Vm w' g B cs' xss ∧ K23 cs cs' ∧ Fs g B w w'

theorem false_vm (w : World) (g : Nat) (B : Bd) (cs : Array Value) (xss : List (List UInt8)) (op data : Value) (h : Vm w g B cs xss) (hn : xss.length ≤ 100000) :
    Calls Tryz.prog 78 #[op, data, .pointer (some ⟨g, 0, none⟩)] w (Leaves w g B cs (xss ++ [[]])) := by
  have H := Lib.hid (push_vm w g B cs xss (.slice none 0 0) [] h (Rd.nil _ _ _ _) hn)
  have hbl := h.blk.lt
  clear h
  go_enter Tryz.func78, Tryz.ntmps78
  go_wp2_with fail
  refine H.out.mono ?_
  rintro e w' ⟨rfl, h⟩
  have h := Lib.hid h
  go_wp2
  go_ret
  exact ⟨rfl, h.out⟩

theorem pushData_vm (w : World) (g : Nat) (B : Bd) (cs : Array Value) (xss : List (List UInt8)) (op data : Value) (xs : List UInt8) (h : Vm w g B cs xss) (hd : Rd 0 w data xs) (hn : xss.length ≤ 100000) :
    Calls Tryz.prog 79 #[op, data, .pointer (some ⟨g, 0, none⟩)] w (Leaves w g B cs (xss ++ [xs])) := by
  have H := Lib.hid (push_vm w g B cs xss data xs h hd hn)
  have hbl := h.blk.lt
  clear h hd
  go_enter Tryz.func79, Tryz.ntmps79
  go_wp2_with fail
  refine H.out.mono ?_
  rintro e w' ⟨rfl, h⟩
  have h := Lib.hid h
  go_wp2
  go_ret
  exact ⟨rfl, h.out⟩

theorem pushInt_vm (w : World) (g : Nat) (B : Bd) (cs : Array Value) (xss : List (List UInt8)) (k : Nat) (h1 : 1 ≤ k) (h2 : k ≤ 16) (h : Vm w g B cs xss) (hn : xss.length ≤ 100000) :
    Calls Tryz.prog 158 #[.pointer (some ⟨g, 23, none⟩), .int .i64 k] w fun e w' => e = .returned (.tuple #[]) ∧
      ∃ cs', Vm w' g B cs' (xss ++ [[UInt8.ofNat k]]) ∧ K23 cs cs' ∧ Fs g B w w' := by
  have H := Lib.hid (bytes_small w k (by omega) (by omega))
  have HV := Lib.hid h
  clear h
  go_enter Tryz.func158, Tryz.ntmps158
  go_wp2_with fail
  refine H.out.mono ?_
  rintro e w1 ⟨A, c, rfl, ho, hb⟩
  have hrd : Rd 0 w1 (.slice A 1 c) [UInt8.ofNat k] := by
    refine Rd.of_own (base := w.heap.size) (e := 5) ?_ (by decide)
    have : bv [UInt8.ofNat k] = [.int .u8 (k : Int)] := by
      have hk : k % 256 = k := by omega
      simp [bv, hk]
    rw [this]
    exact ho
  have H2 := Lib.hid (push_vm w1 g B cs xss _ _ (HV.out.below hb) hrd hn)
  have hfb : Fs g B w w1 := Fs.of_below hb
  have HF := Lib.hid hfb
  clear hb ho hrd hfb
  go_wp2_with fail
  refine H2.out.mono ?_
  rintro e w' ⟨rfl, cs', k1, k2, k3⟩
  have k1 := Lib.hid k1
  have k2 := Lib.hid k2
  have k3 := Lib.hid k3
  go_wp2
  go_end0
  exact ⟨rfl, cs', k1.out, k2.out, HF.out.trans k3.out⟩

theorem opcodeN_vm (w : World) (g : Nat) (B : Bd) (ob : Nat) (cs : Array Value) (xss : List (List UInt8)) (data : Value) (v : Nat) (h1 : 81 ≤ v) (h2 : v ≤ 96) (hc : w.cell? ⟨ob, 0, none⟩ = some (.int .u8 v)) (h : Vm w g B cs xss) (hn : xss.length ≤ 100000) :
    Calls Tryz.prog 82 #[.pointer (some ⟨ob, 0, none⟩), data, .pointer (some ⟨g, 0, none⟩)] w (Leaves w g B cs (xss ++ [[UInt8.ofNat (v - 80)]])) := by
  have H : Hid (∀ n, _) := fun n => pushInt_vm (w.drewN n) g B cs xss (v - 80) (by omega) (by omega) (h.drewN n) hn
  have hbl := h.blk.lt
  have hw : ((v : Int) - 80) % 256 = ((v - 80 : Nat) : Int) := by omega
  clear h
  go_enter Tryz.func82, Tryz.ntmps82
  go_wp2
  go_still_tail 9, (by kernel_rfl)
  change wpList _ _ _ _ _ w.drew
  go_wp2_with fail
  rw [show (v : Int) - 80 = ((v - 80 : Nat) : Int) by omega]
  refine (H.out 1).mono ?_
  rintro e w' ⟨rfl, h⟩
  have h := Lib.hid h
  go_wp2
  go_ret
  obtain ⟨cs', k1, k2, k3⟩ := h.out
  exact ⟨rfl, cs', k1, k2, ((Fs.refl g B w).drewN 1).trans k3⟩

end Go.Proofs.YtafpgikhcjildaaGreatDoor
