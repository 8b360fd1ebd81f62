/- Rows of structs that are known part by part: made, stored into, turned cell by cell. -/
import Derived.Test.YtkgihpebghmnbaaGreatDoorG24
import Derived.Test.YtkgihpebghmnbaaGreatDoorG25
import Derived.Deep.MidRow
namespace Go.Proofs.YtkgihpebghmnbaaGreatDoor
open Go.RowKit Go.Proofs

set_option maxRecDepth 100000

/-- Element j of the row's first i is such that p. -/
def RowsOf (sz : Nat) (C : Array Value) (i : Nat) (p : Nat → List Value → Prop) : Prop := ∀ j, j < i → ∃ cs, cs.length = sz ∧ p j cs ∧ ∀ k u, cs[k]? = some u → C[j * sz + k]? = some u

theorem setCells_blk {R : Nat} {t : TypeId} : ∀ (vs : List Value) (o : Nat) (w : World) (C : Array Value), Blk w R t C → o + vs.length ≤ C.size →
    ∃ C', Blk (w.setCells R o vs) R t C' ∧ C'.size = C.size ∧ (∀ k u, vs[k]? = some u → C'[o + k]? = some u) ∧ ∀ x, x < o ∨ o + vs.length ≤ x → C'[x]? = C[x]?
  | [], o, w, C, h, _ => ⟨C, h, rfl, fun k u hu => by simp at hu, fun _ _ => rfl⟩
  | v :: r, o, w, C, h, hl => by
    simp only [List.length_cons] at hl
    obtain ⟨C', h1, h2, h3, h4⟩ := setCells_blk r (o + 1) (w.setCell ⟨R, o, none⟩ v) _ (h.set_ o v) (by simp; omega)
    refine ⟨C', h1, by rw [h2]; simp, ?_, ?_⟩
    · intro k u hu
      cases k with
      | zero =>
        simp at hu
        subst hu
        rw [Nat.add_zero, h4 o (.inl (Nat.lt_succ_self _)), Array.getElem?_setIfInBounds, if_pos rfl, if_pos (by omega)]
      | succ k =>
        rw [show o + (k + 1) = o + 1 + k by omega]
        exact h3 k u (by simpa using hu)
    · intro x hx
      simp only [List.length_cons] at hx
      rw [h4 x (by omega), Array.getElem?_setIfInBounds, if_neg (by omega)]
theorem setCells_fm {R : Nat} {M : Nat → Prop} {w : World} (hM : M R) : ∀ (vs : List Value) (o : Nat) (w' : World), Fm M w w' → Fm M w (w'.setCells R o vs)
  | [], _, _, h => h
  | v :: r, o, _w', h => setCells_fm hM r (o + 1) _ (h.setCell (p := ⟨R, o, none⟩) (fun _ => hM) v)

theorem RowsOf.zero (sz : Nat) (C : Array Value) (p : Nat → List Value → Prop) : RowsOf sz C 0 p := fun _j hj => absurd hj (Nat.not_lt_zero _)
theorem RowsOf.mono {sz : Nat} {C : Array Value} {i : Nat} {p q : Nat → List Value → Prop} (h : RowsOf sz C i p) (hpq : ∀ j cs, j < i → p j cs → q j cs) : RowsOf sz C i q := fun j hj => by
  obtain ⟨cs, h1, h2, h3⟩ := h j hj
  exact ⟨cs, h1, hpq j cs hj h2, h3⟩
/-- One more element. -/
theorem RowsOf.succ {sz : Nat} {C C' : Array Value} {i : Nat} {p : Nat → List Value → Prop} (h : RowsOf sz C i p) (cs : List Value) (hcs : cs.length = sz) (hp : p i cs)
    (h1 : ∀ k u, cs[k]? = some u → C'[i * sz + k]? = some u) (h2 : ∀ x, x < i * sz ∨ i * sz + cs.length ≤ x → C'[x]? = C[x]?) : RowsOf sz C' (i + 1) p := fun j hj => by
  by_cases hji : j = i
  · subst hji
    exact ⟨cs, hcs, hp, h1⟩
  · obtain ⟨ds, k1, k2, k3⟩ := h j (by omega)
    refine ⟨ds, k1, k2, fun k u hu => ?_⟩
    have hk : k < sz := by rw [← k1]; exact (List.getElem?_eq_some_iff.1 hu).1
    have : (j + 1) * sz ≤ i * sz := Nat.mul_le_mul_right _ (by omega)
    rw [Nat.add_mul, Nat.one_mul] at this
    rw [h2 _ (.inl (by omega))]
    exact k3 k u hu
/-- One cell of an element is stored. -/
theorem RowsOf.set {sz : Nat} {C : Array Value} {n : Nat} {p : Nat → List Value → Prop} (h : RowsOf sz C n p) (i k0 : Nat) (hk0 : k0 < sz) (v : Value) (hi : i * sz + k0 < C.size) :
    RowsOf sz (C.setIfInBounds (i * sz + k0) v) n (fun j cs => if j = i then ∃ ds, ds.length = sz ∧ p i ds ∧ cs = ds.set k0 v else p j cs) := fun j hj => by
  obtain ⟨ds, k1, k2, k3⟩ := h j hj
  by_cases hji : j = i
  · subst hji
    refine ⟨ds.set k0 v, by simpa using k1, by dsimp only; rw [if_pos rfl]; exact ⟨ds, k1, k2, rfl⟩, fun k u hu => ?_⟩
    rw [Array.getElem?_setIfInBounds]
    rw [List.getElem?_set] at hu
    by_cases hk : k0 = k
    · subst hk
      rw [if_pos rfl, if_pos (by omega)] at hu
      rw [if_pos rfl, if_pos hi]
      exact hu
    · rw [if_neg hk] at hu
      rw [if_neg (by omega)]
      exact k3 k u hu
  · refine ⟨ds, k1, by dsimp only; rw [if_neg hji]; exact k2, fun k u hu => ?_⟩
    have hk : k < sz := by rw [← k1]; exact (List.getElem?_eq_some_iff.1 hu).1
    rw [Array.getElem?_setIfInBounds, if_neg]
    · exact k3 k u hu
    · rcases Nat.lt_or_ge j i with hl | hl
      · have := Nat.mul_le_mul_right sz (show j + 1 ≤ i from hl)
        rw [Nat.add_mul, Nat.one_mul] at this
        omega
      · have := Nat.mul_le_mul_right sz (show i + 1 ≤ j by omega)
        rw [Nat.add_mul, Nat.one_mul] at this
        omega
theorem RowsOf.range {sz : Nat} {C : Array Value} {n : Nat} {p : Nat → List Value → Prop} (h : RowsOf sz C n p) {w : World} {R : Nat} {t : TypeId} (hR : Blk w R t C) {j : Nat} (hj : j < n) : ∃ cs, cs.length = sz ∧ p j cs ∧ w.rangeAt R (j * sz) cs := by
  obtain ⟨cs, h1, h2, h3⟩ := h j hj
  exact ⟨cs, h1, h2, fun k u hu => by rw [hR.cell]; exact h3 k u hu⟩

/-- The cells of an input, and of an output, in the row. -/
def CiIs (B : Nat) (w : World) (ci : Ci) (t : TI) : Prop := ci.h = t.h ∧ ci.idx = t.idx ∧ ci.seq = t.seq ∧ t.scr.length ≤ 1000000 ∧ ∃ A c, ci.sv = .slice A t.scr.length c ∧ t.scr.length ≤ c ∧ Cells w A t.scr.length (bv t.scr) ∧ ∀ x y, A = some ⟨x, y, none⟩ → x < B
structure Co where
  val : Int
  sv : Value
def Co.cells (c : Co) : List Value := [.int .i64 c.val, c.sv]
theorem Co.len (c : Co) : c.cells.length = 2 := rfl
def CoIs (B : Nat) (w : World) (co : Co) (t : TO) : Prop := co.val = t.val ∧ t.scr.length ≤ 1000000 ∧ ∃ A c, co.sv = .slice A t.scr.length c ∧ t.scr.length ≤ c ∧ Cells w A t.scr.length (bv t.scr) ∧ ∀ x y, A = some ⟨x, y, none⟩ → x < B
theorem InAt.ci {B : Nat} {w : World} {v : Value} {t : TI} (h : InAt B w v t) : ∃ p o ci, v = .pointer (some ⟨p, o, none⟩) ∧ p < B ∧ w.rangeAt p o (Ci.cells ci) ∧ CiIs B w ci t := by
  obtain ⟨p, o, ci, A, c, h1, h2, h3, h4, h5, h6, h7, h8, h9, h10, h11⟩ := h
  exact ⟨p, o, ci, h1, h2, h3, h4, h5, h6, h9, A, c, h7, h8, h10, h11⟩
theorem OutAt.co {B : Nat} {w : World} {v : Value} {t : TO} (h : OutAt B w v t) : ∃ p o co, v = .pointer (some ⟨p, o, none⟩) ∧ p < B ∧ w.rangeAt p o (Co.cells co) ∧ CoIs B w co t := by
  obtain ⟨p, o, A, c, h1, h2, h3, h4, h5, h6, h7, h8⟩ := h
  refine ⟨p, o, ⟨t.val, .slice A t.scr.length c⟩, h1, h2, ?_, rfl, h6, A, c, rfl, h5, h7, h8⟩
  intro j u hu
  match j, hu with
  | 0, hu => simp [Co.cells] at hu; subst hu; exact h3
  | 1, hu => simp [Co.cells] at hu; subst hu; exact h4
theorem CiIs.below {B : Nat} {w w' : World} {ci : Ci} {t : TI} (h : CiIs B w ci t) (hb : Below B w w') : CiIs B w' ci t := by
  obtain ⟨h1, h2, h3, h4, A, c, h5, h6, h7, h8⟩ := h
  exact ⟨h1, h2, h3, h4, A, c, h5, h6, cells_below hb h7 h8, h8⟩
theorem CoIs.below {B : Nat} {w w' : World} {co : Co} {t : TO} (h : CoIs B w co t) (hb : Below B w w') : CoIs B w' co t := by
  obtain ⟨h1, h2, A, c, h3, h4, h5, h6⟩ := h
  exact ⟨h1, h2, A, c, h3, h4, cells_below hb h5 h6, h6⟩
theorem CiIs.lift {B B' : Nat} {w : World} {ci : Ci} {t : TI} (h : CiIs B w ci t) (hb : B ≤ B') : CiIs B' w ci t := by
  obtain ⟨h1, h2, h3, h4, A, c, h5, h6, h7, h8⟩ := h
  exact ⟨h1, h2, h3, h4, A, c, h5, h6, h7, fun x y e => Nat.lt_of_lt_of_le (h8 x y e) hb⟩
theorem CoIs.lift {B B' : Nat} {w : World} {co : Co} {t : TO} (h : CoIs B w co t) (hb : B ≤ B') : CoIs B' w co t := by
  obtain ⟨h1, h2, A, c, h3, h4, h5, h6⟩ := h
  exact ⟨h1, h2, A, c, h3, h4, h5, fun x y e => Nat.lt_of_lt_of_le (h6 x y e) hb⟩
theorem CiIs.at {B : Nat} {w : World} {ci : Ci} {t : TI} {p o : Nat} (h : CiIs B w ci t) (hr : w.rangeAt p o ci.cells) (hp : p < B) : InAt B w (.pointer (some ⟨p, o, none⟩)) t := by
  obtain ⟨h1, h2, h3, h4, A, c, h5, h6, h7, h8⟩ := h
  exact ⟨p, o, ci, A, c, rfl, hp, hr, h1, h2, h3, h5, h6, h4, h7, h8⟩
theorem CoIs.at {B : Nat} {w : World} {co : Co} {t : TO} {p o : Nat} (h : CoIs B w co t) (hr : w.rangeAt p o co.cells) (hp : p < B) : OutAt B w (.pointer (some ⟨p, o, none⟩)) t := by
  obtain ⟨h1, h2, A, c, h3, h4, h5, h6⟩ := h
  exact ⟨p, o, A, c, rfl, hp, (hr 0 _ rfl).trans (by rw [h1]), (hr 1 _ rfl).trans (by rw [h3]), h4, h2, h5, h6⟩

theorem info_tin : (Tryz.prog.info? 87).map (·.size) = some 36 := by kernel_rfl
theorem info_tout : (Tryz.prog.info? 90).map (·.size) = some 2 := by kernel_rfl

theorem exec_make {P : Program} {ρ : Operand → Value} {o : Oper} {w w' : World} (ty : TypeId) (x y : Operand) {l c v : Value} (ho : o.op = .makeSlice ty x y) (hx : ρ x = l) (hy : ρ y = c) (hr : (Instr.makeSlice ty l c).run P w = .ok v w') : (execOp ρ o).run P w = .ok (.value v) w' := by
  unfold execOp
  simp only [ho, hx, hy, Sem.run_bind, Sem.run_pure, Result.andThen_ok, hr]
end Go.Proofs.YtkgihpebghmnbaaGreatDoor
