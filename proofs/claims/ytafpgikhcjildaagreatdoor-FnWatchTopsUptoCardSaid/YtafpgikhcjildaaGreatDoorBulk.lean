/- The bulk of a list of lists of bytes. -/
import Derived.Test.YtafpgikhcjildaaGreatDoorRows
import Derived.Test.YtafpgikhcjildaaGreatDoorRowsIn
import Derived.Test.YtafpgikhcjildaaGreatDoorSzs
namespace Go.Proofs.YtafpgikhcjildaaGreatDoor
open Go.RowKit Go.Proofs

set_option maxRecDepth 100000

theorem bulk_pos {H : Type} (d : DataW H) : 1 ≤ Rows.uptoBulk d := by
  cases d with
  | lit l => cases l <;> simp [Rows.uptoBulk]
  | _ => simp [Rows.uptoBulk]
theorem bulk_all {H : Type} (ds : List (DataW H)) : ds.length ≤ Rows.uptoBulkAll ds := by
  induction ds with
  | nil => simp
  | cons d ds ih =>
    have := bulk_pos d
    simp [Rows.uptoBulkAll]
    omega
theorem bulk_rows {H : Type} (es : List (DataW H)) : ∀ (xss : List (List UInt8)), es.length = xss.length → (∀ (i : Nat) (e : DataW H) (xs : List UInt8), es[i]? = some e → xss[i]? = some xs → (e = .nil ∧ xs = []) ∨ ∃ ls rs, e = .slice ls rs ∧ ls.length = xs.length) →
    szs xss + xss.length ≤ Rows.uptoBulkAll es := by
  induction es with
  | nil =>
    intro xss hl _
    have : xss = [] := List.eq_nil_of_length_eq_zero (by simpa using hl.symm)
    subst this
    simp [szs]
  | cons e es ih =>
    intro xss hl h
    cases xss with
    | nil => simp at hl
    | cons x xss =>
      have h1 := ih xss (by simpa using hl) (fun i e' xs he hx => h (i + 1) e' xs (by simpa using he) (by simpa using hx))
      rw [szs_cons, Rows.uptoBulkAll]
      simp only [List.length_cons]
      rcases h 0 e x (by simp) (by simp) with ⟨rfl, rfl⟩ | ⟨ls, rs, rfl, hls⟩
      · have := bulk_pos (.nil : DataW H)
        simp only [List.length_nil]
        omega
      · have := bulk_all ls
        simp only [Rows.uptoBulk]
        omega
theorem bulk_read {H : Type} {d : DataW H} {xss : List (List UInt8)}
    (h : (d = .nil ∧ xss = []) ∨ ∃ es rest, d = .slice es rest ∧ es.length = xss.length ∧ ∀ (i : Nat) (e : DataW H) (xs : List UInt8), es[i]? = some e → xss[i]? = some xs → (e = .nil ∧ xs = []) ∨ ∃ ls rs, e = .slice ls rs ∧ ls.length = xs.length) :
    szs xss + xss.length ≤ Rows.uptoBulk d := by
  rcases h with ⟨rfl, rfl⟩ | ⟨es, rest, rfl, hl, h⟩
  · simp [szs]
  · have := bulk_rows es xss hl h
    simp only [Rows.uptoBulk]
    omega
end Go.Proofs.YtafpgikhcjildaaGreatDoor
