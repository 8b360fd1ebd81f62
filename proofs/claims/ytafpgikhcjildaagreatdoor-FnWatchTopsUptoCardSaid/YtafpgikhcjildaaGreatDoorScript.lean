/- Scripts as plain lists of bytes: tokens, the shortest push of some bytes, numbers. No program in sight. -/
namespace Go.Proofs.YtafpgikhcjildaaGreatDoor

/-- A token of a script: its opcode, and what it carries. -/
structure Tok where
  op : Nat
  data : List UInt8

def Tok.enc (t : Tok) : List UInt8 :=
  if t.op = 0 then [0]
  else if t.op < 76 then UInt8.ofNat t.op :: t.data
  else if t.op = 76 then 76 :: UInt8.ofNat t.data.length :: t.data
  else if t.op = 77 then 77 :: UInt8.ofNat (t.data.length % 256) :: UInt8.ofNat (t.data.length / 256) :: t.data
  else [UInt8.ofNat t.op]

/-- The tokens that the machine's walks take. -/
def Tok.ok (t : Tok) : Prop :=
  (t.op = 0 ∧ t.data = []) ∨ (1 ≤ t.op ∧ t.op ≤ 75 ∧ t.data.length = t.op) ∨ (t.op = 76 ∧ t.data.length ≤ 255) ∨ (t.op = 77 ∧ t.data.length ≤ 65535) ∨ (79 ≤ t.op ∧ t.op ≤ 255 ∧ t.data = [])

/-- A script of tokens. -/
def code : List Tok → List UInt8
  | [] => []
  | t :: ts => t.enc ++ code ts

theorem code_append (a b : List Tok) : code (a ++ b) = code a ++ code b := by
  induction a with
  | nil => rfl
  | cons t ts ih => simp [code, ih]

theorem Tok.enc_pos (t : Tok) : 0 < t.enc.length := by
  unfold Tok.enc
  split
  · simp
  · split
    · simp
    · split
      · simp
      · split <;> simp

theorem code_pos (ts : List Tok) (h : ts ≠ []) : 0 < (code ts).length := by
  cases ts with
  | nil => exact absurd rfl h
  | cons t ts => have := t.enc_pos; simp [code]; omega

/-- The shortest token that pushes some bytes. -/
def pushT (d : List UInt8) : Tok :=
  if d.length = 0 then ⟨0, []⟩
  else if d.length = 1 ∧ 1 ≤ (d.getD 0 0).toNat ∧ (d.getD 0 0).toNat ≤ 16 then ⟨80 + (d.getD 0 0).toNat, []⟩
  else if d.length = 1 ∧ (d.getD 0 0).toNat = 129 then ⟨79, []⟩
  else if d.length ≤ 75 then ⟨d.length, d⟩
  else if d.length ≤ 255 then ⟨76, d⟩
  else ⟨77, d⟩

/-- What a token that pushes leaves on the stack. -/
def Tok.pushed (t : Tok) : List UInt8 :=
  if t.op = 0 then []
  else if t.op < 79 then t.data
  else if t.op = 79 then [129]
  else [UInt8.ofNat (t.op - 80)]

theorem pushT_ok (d : List UInt8) (h : d.length ≤ 65535) : (pushT d).ok := by
  unfold pushT Tok.ok
  have hb := (d.getD 0 0).toNat_lt
  split
  · simp
  · split
    · right; right; right; right; simp only [and_true]; omega
    · split
      · right; right; right; right; simp
      · split
        · right; left; simp only [and_true]; omega
        · split
          · right; right; left; simp only [true_and]; omega
          · right; right; right; left; simp only [true_and]; omega

theorem one_byte {d : List UInt8} (h : d.length = 1) : d = [d.getD 0 0] := by
  match d, h with
  | [x], _ => rfl

theorem pushT_pushed (d : List UInt8) : (pushT d).pushed = d := by
  unfold pushT
  split
  · rename_i h
    simp [Tok.pushed, List.eq_nil_of_length_eq_zero h]
  · split
    · rename_i h
      obtain ⟨h1, h2, h3⟩ := h
      simp only [Tok.pushed]
      rw [if_neg (by omega), if_neg (by omega), if_neg (by omega)]
      rw [show 80 + (d.getD 0 0).toNat - 80 = (d.getD 0 0).toNat from by omega]
      conv => rhs; rw [one_byte h1]
      simp
    · split
      · rename_i h
        obtain ⟨h1, h2⟩ := h
        simp only [Tok.pushed]
        conv => rhs; rw [one_byte h1]
        rw [if_neg (by decide), if_neg (by decide), if_pos trivial]
        have : d.getD 0 0 = 129 := by
          apply UInt8.toNat_inj.1
          rw [h2]; rfl
        rw [this]
      · split
        · simp only [Tok.pushed]
          rw [if_neg (by omega), if_pos (by omega)]
        · split
          · simp [Tok.pushed]
          · simp [Tok.pushed]

/-- The least byte first. -/
def leB (n : Nat) : List UInt8 := if h : n = 0 then [] else UInt8.ofNat (n % 256) :: leB (n / 256)
termination_by n
decreasing_by omega

/-- A number, none below 0, as the bytes of a script's number. -/
def numB (n : Nat) : List UInt8 := if 128 ≤ ((leB n).getLastD 0).toNat then leB n ++ [0] else leB n

/-- What bytes come to, the least first. -/
def leV : List UInt8 → Nat
  | [] => 0
  | b :: bs => b.toNat + 256 * leV bs

theorem leV_leB (n : Nat) : leV (leB n) = n := by
  induction n using Nat.strongRecOn with
  | _ n ih =>
    unfold leB
    split
    · rename_i h; subst h; rfl
    · rename_i h
      simp only [leV]
      rw [ih (n / 256) (by omega)]
      simp [UInt8.toNat_ofNat']
      omega

theorem leV_append_zero (bs : List UInt8) : leV (bs ++ [0]) = leV bs := by
  induction bs with
  | nil => rfl
  | cons b bs ih => simp [leV, ih]

theorem leV_numB (n : Nat) : leV (numB n) = n := by
  unfold numB
  split
  · rw [leV_append_zero, leV_leB]
  · exact leV_leB n

theorem leB_length (k n : Nat) (h : n < 256 ^ k) : (leB n).length ≤ k := by
  induction k generalizing n with
  | zero => unfold leB; simp at h; simp [h]
  | succ k ih =>
    unfold leB
    split
    · simp
    · simp only [List.length_cons]
      have := ih (n / 256) (by rw [Nat.pow_succ] at h; omega)
      omega
end Go.Proofs.YtafpgikhcjildaaGreatDoor
