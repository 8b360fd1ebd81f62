/- Copies of rows of structs; a transaction's rows, copied and turned. -/
import Derived.Test.YtkgihpebghmnbaaGreatDoorTxf
import Derived.Test.YtkgihpebghmnbaaGreatDoorG02
namespace Go.Proofs.YtkgihpebghmnbaaGreatDoor
open Go.RowKit Go.Proofs

set_option maxRecDepth 100000

theorem news_of (w : World) (b o : Nat) : ∀ N, (∀ i, i < N → ∃ u, w.cell? ⟨b, o + i, none⟩ = some u ∧ u.oneCell' = true) → ∃ news : List Value, news.length = N ∧ (∀ j u, news[j]? = some u → w.cell? ⟨b, o + j, none⟩ = some u) ∧ ∀ u ∈ news, u.oneCell' = true := by
  intro N
  induction N with
  | zero => exact fun _ => ⟨[], rfl, fun j u h => by simp at h, fun u h => by simp at h⟩
  | succ N ih =>
    intro h
    obtain ⟨news, h1, h2, h3⟩ := ih fun i hi => h i (by omega)
    obtain ⟨u, hu, hu1⟩ := h N (by omega)
    refine ⟨news ++ [u], by simp [h1], fun j x hx => ?_, fun x hx => ?_⟩
    · rcases snoc_get hx with hx | ⟨rfl, rfl⟩
      · exact h2 j x hx
      · rw [h1]; exact hu
    · rcases List.mem_append.1 hx with hx | hx
      · exact h3 x hx
      · rw [List.mem_singleton] at hx; subst hx; exact hu1

/-- Block g holds a copy of the m elements of a row. -/
structure Rowc (w w' : World) (e : TypeId) (size m b o g : Nat) : Prop where
  ge : w.heap.size ≤ g
  blk : ∃ cs, Blk w' g e cs
  bel : Below w.heap.size w w'
  cells : ∀ i, i < m * size → w'.cell? ⟨g, i, none⟩ = w.cell? ⟨b, o + i, none⟩

theorem run_copy {P : Program} (w : World) (t ty e : TypeId) (i : TypeInfo) (z : Value) (size bytes : Nat) (ht : P.underlying t = some (.slice e)) (hi : P.info? e = some i) (hz : i.zero = some z)
    (hsize : i.size = size) (hby : i.bytes = bytes) (hzs : z.cells.size = size) (hsz : 0 < size) (b o m c : Nat) (hm : 0 < m) (hc : ∀ i, i < m * size → ∃ u, w.cell? ⟨b, o + i, none⟩ = some u ∧ u.oneCell' = true) (hm63 : m ≤ 1000000) (_hb0 : 0 < bytes) (hb1 : bytes ≤ 1000000) :
    ∃ g c' w', (Builtin.append_ #[t, t] ty #[.slice (some ⟨w.heap.size, 0, none⟩) 0 0, .slice (some ⟨b, o, none⟩) m c]).run P (w.alloc (.cells #[] e)) = .ok (.slice (some ⟨g, 0, none⟩) m c') w' ∧ Rowc w w' e size m b o g ∧ m ≤ c' := by
  have hbel : Below w.heap.size w (w.alloc (.cells #[] e)) := (Below.refl _ _).alloc (Nat.le_refl _) _
  obtain ⟨news, h1, h2, h3⟩ := news_of (w.alloc (.cells #[] e)) b o (m * size) fun i hi => by
    obtain ⟨u, hu, hu1⟩ := hc i hi
    exact ⟨u, cell_keep hbel hu, hu1⟩
  have hown : (w.alloc (.cells #[] e)).ownsRow w.heap.size e size (.slice (some ⟨w.heap.size, 0, none⟩) 0 0) 0 [] :=
    ⟨by simp, .inr ⟨w.heap.size, 0, #[], rfl, Nat.le_refl _, heap_alloc_new w _, Nat.le_refl _, by simp [maxLen], by simp, by simp⟩⟩
  have hmb : (0 + m) * bytes ≤ 140737488355328 := by
    rw [Nat.zero_add]
    exact Nat.le_trans (Nat.mul_le_mul hm63 hb1) (by omega)
  obtain ⟨v', w', hrun, how, hgr, hnil, hat⟩ := run_append_own_at (P := P) (w.alloc (.cells #[] e)) w.heap.size t ty e i z size bytes ht hi hz hsize hby hzs hsz _ 0 [] hown ⟨b, o, none⟩ m c news h1
    (fun j u hu => by rw [addr_add]; exact h2 j u hu) h3 (by simp only [maxLen]; omega) hmb (by simp)
  rw [Nat.zero_add, List.nil_append] at how
  rcases how.2 with ⟨e1, e2⟩ | ⟨g, cap, cur, rfl, hg, hh, hcap, -, hcs, htk⟩
  · omega
  · refine ⟨g, cap, w', hrun, ⟨hg, ⟨cur, hh⟩, ?_, fun i hi => ?_⟩, hcap⟩
    · refine ⟨hgr.os, hgr.tape, hgr.output, Nat.le_trans (by simp) hgr.size, fun j hj => ?_⟩
      rw [hgr.block j (by simp; omega) (by simp [Value.ownBlock]; omega)]
      exact hbel.block j hj
    · rw [cell_of_row w' g i cur e (0, 0) hh]
      obtain ⟨u, hu, -⟩ := hc i hi
      rw [hu]
      obtain ⟨x, hn⟩ : ∃ x, news[i]? = some x := ⟨_, List.getElem?_eq_getElem (by omega)⟩
      have hxu := (h2 i _ hn).symm.trans (cell_keep hbel hu)
      have hn' : (cur.toList.take (m * size))[i]? = some x := by rw [htk]; exact hn
      rw [List.getElem?_take, if_pos hi] at hn'
      rw [← hxu, ← hn']
      simp

theorem wpList_copy {P : Program} {w : World} {ops : Array Oper} {rest : List Oper} {op : Oper} {a : Act} {Q : Exit → Act → World → Prop} (hgd : op.guard = none) (s x : Operand) (t : TypeId)
    (ho : op.op = .call { callee := .builtin .append, args := #[s, x], argTypes := #[t, t] })
    (e : TypeId) (i : TypeInfo) (z : Value) (size bytes : Nat) (ht : P.underlying t = some (.slice e)) (hi : P.info? e = some i) (hz : i.zero = some z)
    (hsize : i.size = size) (hby : i.bytes = bytes) (hzs : z.cells.size = size) (hsz : 0 < size) (b o m c : Nat) (hs : a.eval s = .slice (some ⟨w.heap.size, 0, none⟩) 0 0) (hx : a.eval x = .slice (some ⟨b, o, none⟩) m c) (hm : 0 < m)
    (hc : ∀ i, i < m * size → ∃ u, w.cell? ⟨b, o + i, none⟩ = some u ∧ u.oneCell' = true) (hm63 : m ≤ 1000000) (hb0 : 0 < bytes) (hb1 : bytes ≤ 1000000)
    (h : ∀ g c' w', Rowc w w' e size m b o g → m ≤ c' → wpList P ops Q rest (a.put op.dst (.slice (some ⟨g, 0, none⟩) m c')) w') : wpList P ops Q (op :: rest) a (w.alloc (.cells #[] e)) :=
  wpList_plain hgd fun K hK => by
    obtain ⟨g, c', w', hrun, h1, h2⟩ := run_copy (P := P) w t op.type e i z size bytes ht hi hz hsize hby hzs hsz b o m c hm hc hm63 hb0 hb1
    unfold Oper.wp execOp
    simp only [ho, resolve, invoke, builtin, Sem.run_bind, Sem.run_pure, Result.andThen_ok, List.map_toArray, List.map_cons, List.map_nil, hs, hx, hrun]
    exact hK _ _ (h g c' w' h1 h2)

/-- The rows of a transaction's inputs, of its outputs. -/
def InsRow (B : Nat) (w : World) (b o : Nat) (ins : List PI) : Prop := ∀ j pj, ins[j]? = some pj → SrcIn B w b (o + j * 36) pj
def OutsRow (B : Nat) (w : World) (b o : Nat) (outs : List TO) : Prop := ∀ j pj, outs[j]? = some pj → SrcOut B w b (o + j * 2) pj

theorem InsRow.one {B : Nat} {w : World} {b o : Nat} {ins : List PI} (h : InsRow B w b o ins) (i : Nat) (hi : i < ins.length * 36) : ∃ u, w.cell? ⟨b, o + i, none⟩ = some u ∧ u.oneCell' = true := by
  have hj : i / 36 < ins.length := by omega
  obtain ⟨As, cs, Aw, cw, wvs, hr, -, -, -⟩ := h (i / 36) ins[i / 36] (List.getElem?_eq_getElem hj)
  have hlen : (inImg ins[i / 36] (.slice As ins[i / 36].scr.length cs) (.slice Aw ins[i / 36].wit.length cw)).length = 36 := by simp [inImg, bv_length, (ins[i / 36]).hl]
  have hm : i % 36 < 36 := Nat.mod_lt _ (by omega)
  have hg := List.getElem?_eq_getElem (l := inImg ins[i / 36] (.slice As ins[i / 36].scr.length cs) (.slice Aw ins[i / 36].wit.length cw)) (i := i % 36) (by omega)
  generalize (inImg ins[i / 36] (.slice As ins[i / 36].scr.length cs) (.slice Aw ins[i / 36].wit.length cw))[i % 36]'(by omega) = u at hg
  refine ⟨u, ?_, ?_⟩
  · have := hr (i % 36) _ hg
    rw [show o + i = o + i / 36 * 36 + i % 36 by omega]
    exact this
  · have hmem := List.mem_of_getElem? hg
    simp only [inImg, List.mem_append, List.mem_cons, List.not_mem_nil, or_false] at hmem
    rcases hmem with hv | hv | hv | hv | hv
    · exact bv_ones _ _ hv
    all_goals (subst hv; rfl)
theorem OutsRow.one {B : Nat} {w : World} {b o : Nat} {outs : List TO} (h : OutsRow B w b o outs) (i : Nat) (hi : i < outs.length * 2) : ∃ u, w.cell? ⟨b, o + i, none⟩ = some u ∧ u.oneCell' = true := by
  have hj : i / 2 < outs.length := by omega
  obtain ⟨As, cs, h0, h1, -⟩ := h (i / 2) outs[i / 2] (List.getElem?_eq_getElem hj)
  rcases (show i % 2 = 0 ∨ i % 2 = 1 by omega) with hm | hm
  · exact ⟨_, by rw [show o + i = o + i / 2 * 2 by omega]; exact h0, rfl⟩
  · exact ⟨_, by rw [show o + i = o + i / 2 * 2 + 1 by omega]; exact h1, rfl⟩

theorem InsRow.copy {B : Nat} {w w' : World} {e : TypeId} {b o g : Nat} {ins : List PI} (h : InsRow B w b o ins) (hc : Rowc w w' e 36 ins.length b o g) : InsRow B w' g 0 ins := by
  intro j pj hj
  have hjl := (List.getElem?_eq_some_iff.1 hj).1
  obtain ⟨As, cs, Aw, cw, wvs, hr, h2, h3, h4⟩ := h j pj hj
  refine ⟨As, cs, Aw, cw, wvs, fun i u hu => ?_, h2.below hc.bel, h3.below hc.bel, h4.below hc.bel⟩
  have hil : i < 36 := by
    have := (List.getElem?_eq_some_iff.1 hu).1
    simpa [inImg, bv_length, pj.hl] using this
  rw [show (0 + j * 36) + i = j * 36 + i by omega, hc.cells (j * 36 + i) (by omega), show o + (j * 36 + i) = o + j * 36 + i by omega]
  exact hr i u hu
theorem OutsRow.copy {B : Nat} {w w' : World} {e : TypeId} {b o g : Nat} {outs : List TO} (h : OutsRow B w b o outs) (hc : Rowc w w' e 2 outs.length b o g) : OutsRow B w' g 0 outs := by
  intro j pj hj
  have hjl := (List.getElem?_eq_some_iff.1 hj).1
  obtain ⟨As, cs, h0, h1, h2⟩ := h j pj hj
  refine ⟨As, cs, ?_, ?_, h2.below hc.bel⟩
  · rw [show 0 + j * 2 = j * 2 by omega, hc.cells (j * 2) (by omega)]
    exact h0
  · rw [show 0 + j * 2 + 1 = j * 2 + 1 by omega, hc.cells (j * 2 + 1) (by omega), show o + (j * 2 + 1) = o + j * 2 + 1 by omega]
    exact h1

/-- An input with another script, and no witness. -/
def PI.scr1 (p : PI) (scr : List UInt8) : PI := ⟨p.h, p.hl, p.idx, scr, [], p.seq⟩
theorem inImg_turn (p : PI) (scr : List UInt8) (s v s' v' : Value) : inImg (p.scr1 scr) s' v' = ((inImg p s v).set 33 s').set 34 v' := by
  unfold inImg PI.scr1
  rw [List.set_append_right _ _ (by rw [bv_length, p.hl]; omega), List.set_append_right _ _ (by rw [bv_length, p.hl]; omega), bv_length, p.hl]
  rfl

theorem InsRow.turned {B : Nat} {w w' : World} {b o g at_ cs : Nat} {ins : List PI} {p : PI} {scr : List UInt8} {As : Option Addr} (h : InsRow B w b o ins) (hb : Below w.heap.size w w')
    (hc : ∀ i, i < ins.length * 36 → i ≠ at_ * 36 + 33 → i ≠ at_ * 36 + 34 → w'.cell? ⟨g, i, none⟩ = w.cell? ⟨b, o + i, none⟩) (h33 : w'.cell? ⟨g, at_ * 36 + 33, none⟩ = some (.slice As scr.length cs)) (hr : Rd B w' (.slice As scr.length cs) scr)
    (h34 : w'.cell? ⟨g, at_ * 36 + 34, none⟩ = some (.slice none 0 0)) (hp : ins[at_]? = some p) : InsRow B w' g 0 (ins.set at_ (p.scr1 scr)) := by
  intro j pj hj
  rw [List.getElem?_set] at hj
  split at hj
  · rename_i he
    subst he
    split at hj
    · injection hj with hj
      subst hj
      have hlt := (List.getElem?_eq_some_iff.1 hp).1
      obtain ⟨A0, c0, Aw, cw, wvs, hr0, -, -, -⟩ := h _ p hp
      refine ⟨As, cs, none, 0, [], fun i u hu => ?_, hr, ⟨rfl, fun h => absurd h (Nat.lt_irrefl 0)⟩, RdL.nil⟩
      have hil : i < 36 := by
        have := (List.getElem?_eq_some_iff.1 hu).1
        simpa [inImg, bv_length, PI.scr1, p.hl] using this
      rw [show (0 + at_ * 36) + i = at_ * 36 + i by omega]
      have hu' : (((inImg p (.slice A0 p.scr.length c0) (.slice Aw p.wit.length cw)).set 33 (.slice As scr.length cs)).set 34 (.slice none 0 0))[i]? = some u := by
        rw [← inImg_turn p scr]
        exact hu
      have hlen : (inImg p (.slice A0 p.scr.length c0) (.slice Aw p.wit.length cw)).length = 36 := by simp [inImg, bv_length, p.hl]
      rw [List.getElem?_set] at hu'
      by_cases e34 : 34 = i
      · subst e34
        rw [if_pos rfl, if_pos (by simp [hlen])] at hu'
        injection hu' with hu'
        subst hu'
        exact h34
      · rw [if_neg e34, List.getElem?_set] at hu'
        by_cases e33 : 33 = i
        · subst e33
          rw [if_pos rfl, if_pos (by omega)] at hu'
          injection hu' with hu'
          subst hu'
          exact h33
        · rw [if_neg e33] at hu'
          rw [hc (at_ * 36 + i) (by omega) (by omega) (by omega), show o + (at_ * 36 + i) = o + at_ * 36 + i by omega]
          exact hr0 i u hu'
    · cases hj
  · rename_i he
    have hlt := (List.getElem?_eq_some_iff.1 hj).1
    obtain ⟨A0, c0, Aw, cw, wvs, hr0, h2, h3, h4⟩ := h j pj hj
    refine ⟨A0, c0, Aw, cw, wvs, fun i u hu => ?_, h2.below hb, h3.below hb, h4.below hb⟩
    have hil : i < 36 := by
      have := (List.getElem?_eq_some_iff.1 hu).1
      simpa [inImg, bv_length, pj.hl] using this
    rw [show (0 + j * 36) + i = j * 36 + i by omega, hc (j * 36 + i) (by omega) (by omega) (by omega), show o + (j * 36 + i) = o + j * 36 + i by omega]
    exact hr0 i u hu

theorem OutsRow.turned {B : Nat} {w w' : World} {b o g k : Nat} {outs : List TO} {q : TO} {v : Int} (h : OutsRow B w b o outs) (hb : Below w.heap.size w w')
    (hc : ∀ i, i < outs.length * 2 → i ≠ k * 2 → w'.cell? ⟨g, i, none⟩ = w.cell? ⟨b, o + i, none⟩) (h0 : w'.cell? ⟨g, k * 2, none⟩ = some (.int .i64 v)) (hq : outs[k]? = some q) : OutsRow B w' g 0 (outs.set k ⟨v, q.scr⟩) := by
  intro j pj hj
  rw [List.getElem?_set] at hj
  split at hj
  · rename_i he
    subst he
    split at hj
    · injection hj with hj
      subst hj
      have hlt := (List.getElem?_eq_some_iff.1 hq).1
      obtain ⟨As, cs, g0, g1, g2⟩ := h _ q hq
      refine ⟨As, cs, ?_, ?_, g2.below hb⟩
      · rw [show 0 + k * 2 = k * 2 by omega]
        exact h0
      · rw [show 0 + k * 2 + 1 = k * 2 + 1 by omega, hc (k * 2 + 1) (by omega) (by omega), show o + (k * 2 + 1) = o + k * 2 + 1 by omega]
        exact g1
    · cases hj
  · rename_i he
    have hlt := (List.getElem?_eq_some_iff.1 hj).1
    obtain ⟨As, cs, g0, g1, g2⟩ := h j pj hj
    refine ⟨As, cs, ?_, ?_, g2.below hb⟩
    · rw [show 0 + j * 2 = j * 2 by omega, hc (j * 2) (by omega) (by omega)]
      exact g0
    · rw [show 0 + j * 2 + 1 = j * 2 + 1 by omega, hc (j * 2 + 1) (by omega) (by omega), show o + (j * 2 + 1) = o + j * 2 + 1 by omega]
      exact g1
end Go.Proofs.YtkgihpebghmnbaaGreatDoor
