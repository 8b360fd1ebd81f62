/- The script of a lock, from its first opcode to the end. -/
import Derived.Test.YtafpgikhcjildaaGreatDoorLockRun
namespace Go.Proofs.YtafpgikhcjildaaGreatDoor
open Go.RowKit Go.Proofs

set_option maxRecDepth 100000

section
variable {w w' : World} {g : Nat} {B : Bd} {sb si k oi pb po n c off len v k' m : Nat} {cs : Array Value} {xss xs1 : List (List UInt8)} {pos : Int} {nm : ByteArray} {dA : Option Addr} {dn dc : Nat} {G F : Prop} {R : Value → World → Prop}

theorem goes_mid (h : StepIn w g B cs xss sb si k oi pb po n c off len v k' pos nm dA dn dc xs1 G F) (hoff : off + len < n) (h33 : cs[33]? = some .nilFunc)
    (hgood : ∀ w' cs', G → Vm w' g B cs' xs1 → En cs' sb si k' (oi + 1) (.slice (some ⟨pb, po, none⟩) n c) (off + len) (pos + 1) → Kp cs cs' → Fs g B w w' → Goes g R m w')
    (hbad : ∀ r w' cs', Fault r → F → Vm w' g B cs' xs1 → Fs g B w w' → R r w') : Goes g R (m + 1) w := by
  refine (step_any h (.inl hoff)).mono ?_
  rintro e w' (⟨-, ⟨rfl, hG, cs', hv', he', hk', hf'⟩ | ⟨r, rfl, hFt, hF, cs', hv', hk', hf'⟩⟩ | ⟨hc, -⟩)
  · exact .inr (.inr ⟨rfl, (hv'.blk.cell 33).trans ((hk' 33 (by omega)).trans h33), hv'.blk.lt, hgood _ _ hG hv' he' hk' hf'⟩)
  · exact .inl ⟨r, rfl, hFt, hbad _ _ _ hFt hF hv' hf'⟩
  · omega

theorem goes_end (h : StepIn w g B cs xss sb 1 k oi pb po n c off len v k' pos nm dA dn dc xs1 G F) (hoff : off + len = n) (h33 : cs[33]? = some .nilFunc)
    (hgood : ∀ w' cs', G → Vm w' g B cs' xs1 → cs'[12]? = some (.int .i64 2) → Kp cs cs' → Fs g B w w' → Ends g R w')
    (hbad : ∀ r w' cs', Fault r → F → Vm w' g B cs' xs1 → Fs g B w w' → R r w') : Goes g R (m + 1) w := by
  refine (step_any h (.inr ⟨hoff, rfl⟩)).mono ?_
  rintro e w' (⟨hc, -⟩ | ⟨-, ⟨rfl, hG, cs', hv', h12, -, hk', hf'⟩ | ⟨r, rfl, hFt, hF, cs', hv', hk', hf'⟩⟩)
  · omega
  · exact .inr (.inl ⟨rfl, (hv'.blk.cell 33).trans ((hk' 33 (by omega)).trans h33), hv'.blk.lt, hgood _ _ hG hv' h12 hk' hf'⟩)
  · exact .inl ⟨r, rfl, hFt, hbad _ _ _ hFt hF hv' hf'⟩

theorem Fs.cell {a : Addr} {u : Value} (h : Fs g B w w') (hc : w.cell? a = some u) (hB : a.block < B.n) (hg : a.block ≠ g) : w'.cell? a = some u := by
  rw [World.cell?_of_block (w := w) (h.block a.block (World.block_lt_of_cell? w _ hc) ?_)]
  · exact hc
  · rintro (e | ⟨e, -⟩)
    · exact hg e
    · omega
end

theorem tokS_push (d : List UInt8) (hd : NumOk d) : TokS (pushT d) := by
  obtain ⟨h5, hl⟩ := hd
  unfold pushT
  split
  · exact .inl ⟨rfl, .inl rfl, by simp, _, op0⟩
  · split
    · rename_i h1
      obtain ⟨ha, hb, hc⟩ := h1
      exact .inl ⟨rfl, .inr (show 78 < 80 + (d.getD 0 0).toNat by omega), (show 80 + (d.getD 0 0).toNat ≤ 255 by omega), op_n (80 + (d.getD 0 0).toNat) (by omega) (by omega)⟩
    · split
      · rename_i h2
        exfalso
        obtain ⟨ha, hb⟩ := h2
        rw [one_byte ha] at hl
        simp at hl
        simp at hb
        omega
      · rw [if_pos (by omega)]
        exact .inr (.inl ⟨by simp only; omega, by simp only; omega, rfl⟩)

theorem drop_at (p r : List UInt8) (n k : Nat) (h : n = p.length + k) : (p ++ r).drop n = r.drop k := by
  subst h
  induction p with
  | nil => simp
  | cons a p ih => rw [List.length_cons, Nat.add_right_comm, List.cons_append, List.drop_succ_cons]; exact ih
theorem len177 : (Tok.mk 177 []).enc.length = 1 := rfl
theorem len117 : (Tok.mk 117 []).enc.length = 1 := rfl
theorem len81 : (Tok.mk 81 []).enc.length = 1 := rfl

/-- The tokens of a lock's script. -/
def lockT (d : List UInt8) : List Tok := [pushT d, ⟨177, []⟩, ⟨117, []⟩, ⟨81, []⟩]
theorem lockT_ok (d : List UInt8) (hd : NumOk d) : ∀ t ∈ lockT d, TokS t := by
  intro t ht
  simp only [lockT, List.mem_cons, List.not_mem_nil, or_false] at ht
  rcases ht with rfl | rfl | rfl | rfl
  · exact tokS_push d hd
  · exact .inl ⟨rfl, .inr (show 78 < 177 by omega), (show 177 ≤ 255 by omega), _, op177⟩
  · exact .inl ⟨rfl, .inr (show 78 < 117 by omega), (show 117 ≤ 255 by omega), _, op117⟩
  · exact .inl ⟨rfl, .inr (show 78 < 81 by omega), (show 81 ≤ 255 by omega), _, op81⟩
theorem lock_code (d : List UInt8) : code (lockT d) = (pushT d).enc ++ [177, 117, 81] := by
  simp [code, lockT, Tok.enc]

/-- What a run of the lock's script comes to. -/
def LockR (g : Nat) (B : Bd) (w : World) (d : List UInt8) (l : Nat) (r : Value) (w' : World) : Prop :=
  Fs g B w w' ∧ ((r = .nilIface ∧ Met (leV d) l ∧ ∃ cs', Vm w' g B cs' []) ∨ (Fault r ∧ ¬ Met (leV d) l ∧ ∃ cs', Vm w' g B cs' [d]))

theorem lock_goes {w : World} {g : Nat} {B : Bd} {sb pb po n c rn rc ib l : Nat} {cs : Array Value} (d : List UInt8) (hd : NumOk d) (hl : l < 4294967296)
    (hV : Vm w g B cs []) (hE : En cs sb 1 0 0 (.slice (some ⟨pb, po, none⟩) n c) 0 (-1)) (hn : n ≤ 10000)
    (hrd : Rd 0 w (.slice (some ⟨pb, po, none⟩) n c) (code (lockT d)))
    (h0 : cs[0]? = some (.int .u32 8)) (h2 : cs[2]? = some (.slice (some ⟨rn, 0, none⟩) 1 rc)) (h4 : cs[4]? = some (.int .u32 l)) (h5 : cs[5]? = some (.int .i64 0)) (h24 : cs[24]? = some (.bool false)) (h33 : cs[33]? = some .nilFunc)
    (hrn : rn < B.n) (hrg : rn ≠ g) (hib : ib < B.n) (hig : ib ≠ g) (hrow : w.cell? ⟨rn, 0, none⟩ = some (.pointer (some ⟨ib, 0, none⟩))) (hseq : w.cell? ⟨ib, 35, none⟩ = some (.int .u32 100)) :
    Goes g (LockR g B w d l) 4 w := by
  have hlen : n = (pushT d).enc.length + 3 := by
    have h1 := hrd.len.1
    rw [lock_code] at h1
    simpa using h1
  have hpp := (pushT d).enc_pos
  have hc := lock_code d
  -- the number
  obtain ⟨nm, dA, dc, h1⟩ := stepIn_tok (t := pushT d) (rest := [177, 117, 81]) (xs1 := [d]) (G := True) (F := False) (k' := 0) hV hE (by omega) (by omega) (by omega) (by simp) hrd (by rw [hc]; rfl) (tokS_push d hd) (by omega) (by omega)
    (fun dA dc w1 cs1 hr hv1 he1 hk _ hob _ => push_ran d hd hv1 he1 ((hk 24 (by omega)).trans h24) (by simp) hob rfl hr)
  refine goes_mid h1 (by omega) h33 ?_ (fun _ _ _ _ hF _ _ => hF.elim)
  intro w1 cs1 _ hv1 he1 hk1 hf1
  have hr1 := hf1.rd hV.blk hrd
  -- the lock
  obtain ⟨nm2, dA2, dc2, i2⟩ := stepIn_tok (t := ⟨177, []⟩) (rest := [117, 81]) (xs1 := [d]) (G := Met (leV d) l) (F := ¬ Met (leV d) l) (k' := 1) hv1 he1 (by omega) (by omega) (by omega) (by simp) hr1
    (by rw [hc, drop_at _ _ _ 0 (by omega)]; rfl) (lockT_ok d hd _ (by simp [lockT])) (by omega) (by omega)
    (fun dA dc w2 cs2 hr hv2 he2 hk2 hf2 hob hne => by
      refine great_ran (k := 0) hv2 he2 ((hk2 24 (by omega)).trans ((hk1 24 (by omega)).trans h24)) (by omega) (by omega) (by omega) (by omega) plain177 runs177 hob hne ?_
      intro w3 hv3 hf3 hcell
      have kk : ∀ i, i < 12 ∨ i = 22 ∨ (24 ≤ i ∧ i ≠ 28) → (cs2.setIfInBounds 28 (.int .i64 ((0 : Nat) + 1 : Int)))[i]? = cs[i]? := fun i hi => by
        rw [Array.getElem?_setIfInBounds, if_neg (by rintro rfl; omega)]
        exact (hk2 i hi).trans (hk1 i hi)
      have ff := (hf1.trans hf2).trans hf3
      refine (cltv_vm w3 g B l 0 rc rn ib 0 _ [] d _ _ hv3 (by simp) hd hl ((kk 0 (by omega)).trans h0) ?_ ((kk 4 (by omega)).trans h4) ((kk 2 (by omega)).trans h2) ((kk 5 (by omega)).trans h5) (ff.cell hrow hrn hrg) (by rw [Nat.zero_add]; exact ff.cell hseq hib hig)).mono ?_
      · rw [Array.getElem?_setIfInBounds, if_neg (by omega)]
        exact (hk2 24 (by omega)).trans ((hk1 24 (by omega)).trans h24)
      · rintro e w' ⟨r, rfl, hr, hb⟩
        exact ⟨r, rfl, hr, _, hv3.below hb, K23.refl _, Fs.of_below hb⟩)
  refine goes_mid i2 (by have := len177; have := len117; have := len81; omega) ((hk1 33 (by omega)).trans h33) ?_ (fun r w' cs' hF hN hv hf => ⟨hf1.trans hf, .inr ⟨hF, hN, cs', hv⟩⟩)
  intro w2 cs2 hmet hv2 he2 hk2 hf2
  have hr2 := hf2.rd hv1.blk hr1
  -- DROP
  obtain ⟨nm3, dA3, dc3, i3⟩ := stepIn_tok (t := ⟨117, []⟩) (rest := [81]) (xs1 := []) (G := True) (F := False) (k' := 2) hv2 he2 (by omega) (by omega) (by omega) (by simp) hr2
    (by rw [hc, drop_at _ _ _ 1 (by have := len177; omega)]; rfl) (lockT_ok d hd _ (by simp [lockT])) (by omega) (by omega)
    (fun dA dc w3 cs3 hr hv3 he3 hk3 hf3 hob hne => by
      refine great_ran (k := 1) hv3 he3 ((hk3 24 (by omega)).trans ((hk2 24 (by omega)).trans ((hk1 24 (by omega)).trans h24))) (by omega) (by omega) (by omega) (by omega) plain117 runs117 hob hne ?_
      intro w4 hv4 hf4 hcell
      refine (drop_vm w4 g B _ [] d _ _ hv4 (by simp)).mono ?_
      rintro e w' ⟨rfl, cs', a1, a2, a3⟩
      exact ⟨_, rfl, .inl ⟨rfl, trivial⟩, cs', a1, a2, a3⟩)
  refine goes_mid i3 (by have := len177; have := len117; have := len81; omega) ((hk2 33 (by omega)).trans ((hk1 33 (by omega)).trans h33)) ?_ (fun _ _ _ _ hF _ _ => hF.elim)
  intro w3 cs3 _ hv3 he3 hk3 hf3
  have hr3 := hf3.rd hv2.blk hr2
  -- 1
  obtain ⟨nm4, dA4, dc4, i4⟩ := stepIn_tok (t := ⟨81, []⟩) (rest := []) (xs1 := [[1]]) (G := True) (F := False) (k' := 2) hv3 he3 (by omega) (by omega) (by omega) (by simp) hr3
    (by rw [hc, drop_at _ _ _ 2 (by have := len177; have := len117; omega)]; rfl) (lockT_ok d hd _ (by simp [lockT])) (by omega) (by omega)
    (fun dA dc w4 cs4 hr hv4 he4 hk4 hf4 hob hne => small_ran hv4 he4 (by omega) (by simp) runs81 hob (.inl ((hv4.blk.cell 24).trans ((hk4 24 (by omega)).trans ((hk3 24 (by omega)).trans ((hk2 24 (by omega)).trans ((hk1 24 (by omega)).trans h24)))))) (opcodeN_vm w4 g B _ cs4 [] _ 81 (by omega) (by omega) hob hv4 (by simp)))
  refine goes_end i4 (by have := len177; have := len117; have := len81; omega) ((hk3 33 (by omega)).trans ((hk2 33 (by omega)).trans ((hk1 33 (by omega)).trans h33))) ?_ (fun _ _ _ _ hF _ _ => hF.elim)
  intro w4 cs4 _ hv4 h12 hk4 hf4
  have kall : ∀ i, i < 12 ∨ i = 22 ∨ (24 ≤ i ∧ i ≠ 28) → cs4[i]? = cs[i]? := fun i hi => (hk4 i hi).trans ((hk3 i hi).trans ((hk2 i hi).trans (hk1 i hi)))
  refine (check_fine w4 g B sb 8 cs4 hv4 ((kall 0 (by omega)).trans h0) (by decide) ((kall 30 (by omega)).trans hE.c30) ((kall 32 (by omega)).trans hE.c32) ((kall 11 (by omega)).trans hE.c11) h12).mono ?_
  rintro e w' ⟨rfl, cs', hv', hf'⟩
  exact ⟨_, rfl, .inl rfl, (((hf1.trans hf2).trans hf3).trans hf4).trans hf', .inl ⟨rfl, hmet, cs', hv'⟩⟩
end Go.Proofs.YtafpgikhcjildaaGreatDoor
