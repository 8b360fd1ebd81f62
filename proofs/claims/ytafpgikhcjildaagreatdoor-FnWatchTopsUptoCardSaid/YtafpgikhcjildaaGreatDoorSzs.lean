/- How long lists of bytes are together. -/
import Derived.Test.YtafpgikhcjildaaGreatDoorBase
namespace Go.Proofs.YtafpgikhcjildaaGreatDoor

/-- How long they are together. -/
def szs (xss : List (List UInt8)) : Nat := (xss.map List.length).sum
theorem szs_nil : szs [] = 0 := rfl
theorem szs_cons (x : List UInt8) (xss : List (List UInt8)) : szs (x :: xss) = x.length + szs xss := by simp [szs]
theorem szs_append (a b : List (List UInt8)) : szs (a ++ b) = szs a + szs b := by simp [szs]
theorem szs_mem {x : List UInt8} {xss : List (List UInt8)} (h : x ∈ xss) : x.length ≤ szs xss := by
  induction xss with
  | nil => cases h
  | cons a l ih =>
    rw [szs_cons]
    rcases List.mem_cons.1 h with rfl | h
    · omega
    · have := ih h
      omega
theorem szs_take (xss : List (List UInt8)) (i : Nat) : szs (xss.take i) ≤ szs xss := by
  have h : szs (xss.take i ++ xss.drop i) = szs xss := by rw [List.take_append_drop]
  rw [szs_append] at h
  omega
theorem szs_take_succ {xss : List (List UInt8)} {i : Nat} {x : List UInt8} (h : xss[i]? = some x) : szs (xss.take (i + 1)) = szs (xss.take i) + x.length := by
  rw [List.take_add_one, h, szs_append]
  simp [szs]
end Go.Proofs.YtafpgikhcjildaaGreatDoor
