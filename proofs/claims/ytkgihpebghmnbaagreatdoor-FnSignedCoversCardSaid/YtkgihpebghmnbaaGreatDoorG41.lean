/- How long a transaction is, roughly: the law's own bound (printed by gen_size.py). same: whether two rows of bytes are alike. The reference's shortest push of whatever bytes. -/
import Derived.Test.YtkgihpebghmnbaaGreatDoorG40
import Derived.Test.YtkgihpebghmnbaaGreatDoorG02
import Derived.Test.YtkgihpebghmnbaaGreatDoorG22
namespace Go.Proofs.YtkgihpebghmnbaaGreatDoor
open Go.RowKit Go.Proofs

set_option maxRecDepth 100000

theorem Below.nq {b : Nat} {w w' : World} {n : Nat} (h : Below b w w') : Below b w (w'.drewN n) := ⟨h.os, h.tape, h.output, h.size, h.block⟩
/-- more. -/
def mor (a b : Nat) : Nat := if a + b ≤ 100000 then a + b else 100001
theorem mor_le (a b : Nat) : mor a b ≤ 100001 := by unfold mor; split <;> omega
theorem mor_sum {a b : Nat} (h : mor a b ≤ 100000) : mor a b = a + b := by unfold mor at *; split at h <;> simp_all

theorem more_any (w : World) (a b : Nat) : Calls Tryz.prog 16 #[.int .i64 a, .int .i64 b] w fun e w' => e = .returned (.int .i64 (mor a b)) ∧ w = w' := by
  rcases (show (¬ a ≤ 100000) ∨ (a ≤ 100000 ∧ ¬ b ≤ 100000) ∨ (a ≤ 100000 ∧ b ≤ 100000 ∧ ¬ a + b ≤ 100000) ∨ (a ≤ 100000 ∧ b ≤ 100000 ∧ a + b ≤ 100000) by omega) with h | ⟨h, k⟩ | ⟨h, k, l⟩ | ⟨h, k, l⟩
  · have e : mor a b = 100001 := by unfold mor; rw [if_neg (by omega)]
    have h1 : (100000 : Int) < (a : Int) := by omega
    rw [e]
    go_enter Tryz.func16, Tryz.ntmps16
    go_wp2
    go_ret
    exact ⟨rfl, rfl⟩
  · have e : mor a b = 100001 := by unfold mor; rw [if_neg (by omega)]
    have h1 : ¬ (100000 : Int) < (a : Int) := by omega
    have h2 : (100000 : Int) < (b : Int) := by omega
    rw [e]
    go_enter Tryz.func16, Tryz.ntmps16
    go_wp2
    go_ret
    exact ⟨rfl, rfl⟩
  · have e : mor a b = 100001 := by unfold mor; rw [if_neg (by omega)]
    have h1 : ¬ (100000 : Int) < (a : Int) := by omega
    have h2 : ¬ (100000 : Int) < (b : Int) := by omega
    have h3 : (100000 : Int) < (a : Int) + (b : Int) := by omega
    rw [e]
    go_enter Tryz.func16, Tryz.ntmps16
    go_wp2
    go_ret
    exact ⟨rfl, rfl⟩
  · have e : mor a b = a + b := by unfold mor; rw [if_pos (by omega)]
    have h1 : ¬ (100000 : Int) < (a : Int) := by omega
    have h2 : ¬ (100000 : Int) < (b : Int) := by omega
    have h3 : ¬ (100000 : Int) < (a : Int) + (b : Int) := by omega
    rw [e]
    go_enter Tryz.func16, Tryz.ntmps16
    go_wp2
    go_ret
    exact ⟨by simp, rfl⟩
theorem more_q (w : World) (m a b : Nat) : Calls Tryz.prog 16 #[.int .i64 a, .int .i64 b] (w.drewN m) fun e w' => e = .returned (.int .i64 (mor a b)) ∧ w' = w.drewN m := (more_any _ a b).mono fun _ _ h => ⟨h.1, h.2.symm⟩

theorem more_q' (w : World) (m a b : Nat) (x y : Int) (hx : x = (a : Int)) (hy : y = (b : Int)) : Calls Tryz.prog 16 #[.int .i64 x, .int .i64 y] (w.drewN m) fun e w' => e = .returned (.int .i64 (mor a b)) ∧ w' = w.drewN m := by
  subst hx; subst hy
  exact more_q w m a b

/-- An input is small. -/
def PI.Sm (q : PI) : Prop := q.scr.length ≤ 1000000 ∧ q.wit.length ≤ 1000000 ∧ ∀ xs ∈ q.wit, xs.length ≤ 1000000

theorem inImg_33 (p : PI) (s v : Value) : (inImg p s v)[33]? = some s := by
  unfold inImg
  rw [List.getElem?_append_right (by rw [bv_length, p.hl]; omega), bv_length, p.hl]
  rfl
theorem inImg_34 (p : PI) (s v : Value) : (inImg p s v)[34]? = some v := by
  unfold inImg
  rw [List.getElem?_append_right (by rw [bv_length, p.hl]; omega), bv_length, p.hl]
  rfl

set_option maxHeartbeats 4000000 in
theorem txSize_any (B : Nat) (w : World) (Ai Ao : Option Addr) (ci co : Nat) (p : PT) (hs : SrcTx B w Ai Ao p) :
    Calls Tryz.prog 6 #[.agg #[.int .i32 p.ver, .slice Ai p.ins.length ci, .slice Ao p.outs.length co, .int .u32 p.lock]] w fun e w' =>
      ∃ k : Nat, e = .returned (.int .i64 k) ∧ (k ≤ 100000 → p.Small) ∧ Below w.heap.size w w' := by
  have hb : Below w.heap.size w (w.alloc (.cells #[.int .i32 p.ver, .slice Ai p.ins.length ci, .slice Ao p.outs.length co, .int .u32 p.lock] 27)) := (Below.refl _ _).alloc (Nat.le_refl _) _
  have hT := Blk.new w 27 #[.int .i32 p.ver, .slice Ai p.ins.length ci, .slice Ao p.outs.length co, .int .u32 p.lock]
  have HI := Lib.hid hs.ins
  have HO := Lib.hid hs.outs
  clear hs
  generalize hni : p.ins.length = ni at *
  generalize hno : p.outs.length = no at *
  have HT := Lib.hid hT
  have HB := Lib.hid hb
  clear hT hb
  go_enter Tryz.func6, Tryz.ntmps6
  go_wp2_with fail
  generalize w.alloc (.cells #[.int .i32 p.ver, .slice Ai ni ci, .slice Ao no co, .int .u32 p.lock] 27) = W at *
  generalize hTT : w.heap.size = T at HT ⊢
  go_loopg [3, 4] (ni + 1) (fun k s3 s4 wx => ∃ (i n : Nat), k = ni - i + 1 ∧ i ≤ ni ∧ s3 = .int .i64 n ∧ s4 = .int .i64 i ∧ n ≤ 100001 ∧ (n ≤ 100000 → 50 * i ≤ n ∧ ∀ q ∈ p.ins.take i, q.Sm) ∧ Below w.heap.size w wx ∧ Blk wx T 27 #[.int .i32 p.ver, .slice Ai ni ci, .slice Ao no co, .int .u32 p.lock])
  case atStart => exact ⟨0, 10, rfl, Nat.zero_le _, rfl, rfl, by omega, fun _ => ⟨by omega, fun q hq => by simp at hq⟩, HB.out, HT.out⟩
  case round =>
    obtain ⟨i, n, hk, hin, rfl, rfl, hn1, hall, hbx, hTx⟩ := hrel
    have t1 := hTx.cell 1
    change _ = some (Value.slice Ai ni ci) at t1
    rcases (show i = ni ∨ (i < ni ∧ ¬ n ≤ 100000) ∨ (i < ni ∧ n ≤ 100000) by omega) with h0 | ⟨h0, h3⟩ | ⟨h0, h3⟩
    · subst h0
      have hd : decide ((i : Int) < i) = false := by simp
      have hfin : n ≤ 100000 → i ≤ 100000 ∧ ∀ q ∈ p.ins, q.Sm := fun hle => by
        obtain ⟨g1, g2⟩ := hall hle
        rw [List.take_of_length_le (by omega)] at g2
        exact ⟨by omega, g2⟩
      clear hall
      go_wp2_with fail
      have hfin' := Lib.hid hfin
      have HBx := Lib.hid hbx
      have HTx := Lib.hid hTx
      clear hfin hbx hTx
      go_loopg [3, 6] (no + 1) (fun k s3 s6 wx => ∃ (j n : Nat), k = no - j + 1 ∧ j ≤ no ∧ s3 = .int .i64 n ∧ s6 = .int .i64 j ∧ n ≤ 100001 ∧ (n ≤ 100000 → (i ≤ 100000 ∧ ∀ q ∈ p.ins, q.Sm) ∧ 17 * j ≤ n ∧ ∀ q ∈ p.outs.take j, q.scr.length ≤ 1000000) ∧ Below w.heap.size w wx ∧ Blk wx T 27 #[.int .i32 p.ver, .slice Ai i ci, .slice Ao no co, .int .u32 p.lock])
      case atStart => exact ⟨0, n, rfl, Nat.zero_le _, rfl, rfl, hn1, fun h => ⟨hfin'.out h, Nat.zero_le _, fun q hq => by simp at hq⟩, HBx.out, HTx.out⟩
      case round =>
        obtain ⟨j, n2, hk, hj, rfl, rfl, hn2, hall, hbx2, hTx2⟩ := hrel
        have t2 := hTx2.cell 2
        change _ = some (Value.slice Ao no co) at t2
        have HALL := Lib.hid hall
        have HB2 := Lib.hid hbx2
        have HT2 := Lib.hid hTx2
        have HK2 := Lib.hid hk
        clear hall hTx2 hk
        rcases (show j = no ∨ (j < no ∧ ¬ n2 ≤ 100000) ∨ (j < no ∧ n2 ≤ 100000) by omega) with h0 | ⟨h0, h3⟩ | ⟨h0, h3⟩
        · subst h0
          clear hbx2
          have hd : decide ((j : Int) < j) = false := by simp
          go_wp2
          go_ret
          refine ⟨n2, rfl, fun hle => ?_, by first | exact HB2.out | (rw [hTT]; exact HB2.out) | (rw [← hTT]; exact HB2.out)⟩
          obtain ⟨⟨g1, g2⟩, g3, g4⟩ := HALL.out hle
          rw [List.take_of_length_le (by omega)] at g4
          exact ⟨by rw [hni]; omega, by rw [hno]; omega, g2, g4⟩
        · clear hbx2
          have h1 : (j : Int) < (no : Int) := by omega
          have h4 : ¬ ((n2 : Int) ≤ 100000) := by omega
          go_wp2
          go_ret
          exact ⟨n2, rfl, fun hle => absurd hle h3, by first | exact HB2.out | (rw [hTT]; exact HB2.out) | (rw [← hTT]; exact HB2.out)⟩
        · have h1 : (j : Int) < (no : Int) := by omega
          have h2 : (0 : Int) ≤ (j : Int) := by omega
          have h4 : (n2 : Int) ≤ 100000 := by omega
          have hj8 : (j : Int) ≤ 100000 := by have := (HALL.out h3).2.1; omega
          obtain ⟨b, o, rfl, hsrc⟩ := HO.out (by omega)
          obtain ⟨q, hq⟩ : ∃ v, p.outs[j]? = some v := ⟨p.outs[j]'(by omega), List.getElem?_eq_getElem _⟩
          obtain ⟨As, cs, -, hc1, -⟩ := (hsrc j q hq).below hbx2
          have HQ := Lib.hid hq
          clear hsrc hq hbx2
          go_wp2_with fail
          go_quiet (first | exact Calls.quiet_of_same (more_q' _ _ n2 17 _ _ (by omega) (by omega)) | exact Calls.quiet_of_same (more_q' _ _ (mor n2 17) q.scr.length _ _ (by omega) (by omega)))
          go_wp2_with fail
          have hw1 : (j : Int) + 1 = ((j + 1 : Nat) : Int) := by omega
          go_roundg (no - (j + 1) + 1)
          case measure => have := HK2.out; omega
          case rel =>
            refine ⟨j + 1, mor (mor n2 17) q.scr.length, rfl, by omega, rfl, by rw [← hw1], mor_le _ _, fun hle => ?_, (Below.nq HB2.out), HT2.out⟩
            have e1 := mor_sum hle
            have e2 := mor_sum (show mor n2 17 ≤ 100000 by omega)
            obtain ⟨g1, g2, g3⟩ := HALL.out (by omega)
            refine ⟨g1, by omega, fun x hx => ?_⟩
            rw [List.take_add_one, HQ.out] at hx
            rcases List.mem_append.1 hx with hx | hx
            · exact g3 x hx
            · simp at hx
              subst hx
              omega
    · have h1 : (i : Int) < (ni : Int) := by omega
      have h4 : ¬ ((n : Int) ≤ 100000) := by omega
      have hfin : n ≤ 100000 → ni ≤ 100000 ∧ ∀ q ∈ p.ins, q.Sm := fun hle => absurd hle h3
      clear hall
      go_wp2_with fail
      have hfin' := Lib.hid hfin
      have HBx := Lib.hid hbx
      have HTx := Lib.hid hTx
      clear hfin hbx hTx
      go_loopg [3, 6] (no + 1) (fun k s3 s6 wx => ∃ (j n : Nat), k = no - j + 1 ∧ j ≤ no ∧ s3 = .int .i64 n ∧ s6 = .int .i64 j ∧ n ≤ 100001 ∧ (n ≤ 100000 → (ni ≤ 100000 ∧ ∀ q ∈ p.ins, q.Sm) ∧ 17 * j ≤ n ∧ ∀ q ∈ p.outs.take j, q.scr.length ≤ 1000000) ∧ Below w.heap.size w wx ∧ Blk wx T 27 #[.int .i32 p.ver, .slice Ai ni ci, .slice Ao no co, .int .u32 p.lock])
      case atStart => exact ⟨0, n, rfl, Nat.zero_le _, rfl, rfl, hn1, fun h => ⟨hfin'.out h, Nat.zero_le _, fun q hq => by simp at hq⟩, HBx.out, HTx.out⟩
      case round =>
        obtain ⟨j, n2, hk, hj, rfl, rfl, hn2, hall, hbx2, hTx2⟩ := hrel
        have t2 := hTx2.cell 2
        change _ = some (Value.slice Ao no co) at t2
        have HALL := Lib.hid hall
        have HB2 := Lib.hid hbx2
        have HT2 := Lib.hid hTx2
        have HK2 := Lib.hid hk
        clear hall hTx2 hk
        rcases (show j = no ∨ (j < no ∧ ¬ n2 ≤ 100000) ∨ (j < no ∧ n2 ≤ 100000) by omega) with h0 | ⟨h0, h3⟩ | ⟨h0, h3⟩
        · subst h0
          clear hbx2
          have hd : decide ((j : Int) < j) = false := by simp
          go_wp2
          go_ret
          refine ⟨n2, rfl, fun hle => ?_, by first | exact HB2.out | (rw [hTT]; exact HB2.out) | (rw [← hTT]; exact HB2.out)⟩
          obtain ⟨⟨g1, g2⟩, g3, g4⟩ := HALL.out hle
          rw [List.take_of_length_le (by omega)] at g4
          exact ⟨by rw [hni]; omega, by rw [hno]; omega, g2, g4⟩
        · clear hbx2
          have h1 : (j : Int) < (no : Int) := by omega
          have h4 : ¬ ((n2 : Int) ≤ 100000) := by omega
          go_wp2
          go_ret
          exact ⟨n2, rfl, fun hle => absurd hle h3, by first | exact HB2.out | (rw [hTT]; exact HB2.out) | (rw [← hTT]; exact HB2.out)⟩
        · have h1 : (j : Int) < (no : Int) := by omega
          have h2 : (0 : Int) ≤ (j : Int) := by omega
          have h4 : (n2 : Int) ≤ 100000 := by omega
          have hj8 : (j : Int) ≤ 100000 := by have := (HALL.out h3).2.1; omega
          obtain ⟨b, o, rfl, hsrc⟩ := HO.out (by omega)
          obtain ⟨q, hq⟩ : ∃ v, p.outs[j]? = some v := ⟨p.outs[j]'(by omega), List.getElem?_eq_getElem _⟩
          obtain ⟨As, cs, -, hc1, -⟩ := (hsrc j q hq).below hbx2
          have HQ := Lib.hid hq
          clear hsrc hq hbx2
          go_wp2_with fail
          go_quiet (first | exact Calls.quiet_of_same (more_q' _ _ n2 17 _ _ (by omega) (by omega)) | exact Calls.quiet_of_same (more_q' _ _ (mor n2 17) q.scr.length _ _ (by omega) (by omega)))
          go_wp2_with fail
          have hw1 : (j : Int) + 1 = ((j + 1 : Nat) : Int) := by omega
          go_roundg (no - (j + 1) + 1)
          case measure => have := HK2.out; omega
          case rel =>
            refine ⟨j + 1, mor (mor n2 17) q.scr.length, rfl, by omega, rfl, by rw [← hw1], mor_le _ _, fun hle => ?_, (Below.nq HB2.out), HT2.out⟩
            have e1 := mor_sum hle
            have e2 := mor_sum (show mor n2 17 ≤ 100000 by omega)
            obtain ⟨g1, g2, g3⟩ := HALL.out (by omega)
            refine ⟨g1, by omega, fun x hx => ?_⟩
            rw [List.take_add_one, HQ.out] at hx
            rcases List.mem_append.1 hx with hx | hx
            · exact g3 x hx
            · simp at hx
              subst hx
              omega
    · have h1 : (i : Int) < (ni : Int) := by omega
      have h2 : (0 : Int) ≤ (i : Int) := by omega
      have h4 : (n : Int) ≤ 100000 := by omega
      have hi8 : (i : Int) ≤ 100000 := by have := (hall h3).1; omega
      obtain ⟨b, o, rfl, hsrc⟩ := HI.out (by omega)
      obtain ⟨q, hq⟩ : ∃ v, p.ins[i]? = some v := ⟨p.ins[i]'(by omega), List.getElem?_eq_getElem _⟩
      have HSRC := Lib.hid (hsrc i q hq)
      obtain ⟨As, cs, Aw, cw, wvs, hr, -, hcw, hrl⟩ := (hsrc i q hq).below hbx
      have c33 := hr 33 _ (inImg_33 q _ _)
      have HQ := Lib.hid hq
      have HALL := Lib.hid hall
      have HB2 := Lib.hid hbx
      have HT2 := Lib.hid hTx
      have HK2 := Lib.hid hk
      have c34 := Lib.hid (hr 34 _ (inImg_34 q _ _))
      have HCW := Lib.hid hcw
      have HRL := Lib.hid hrl
      clear hsrc hq hbx hall hTx hk hr hcw hrl
      go_wp2_with fail
      go_quiet (first | exact Calls.quiet_of_same (more_q' _ _ n 50 _ _ (by omega) (by omega)) | exact Calls.quiet_of_same (more_q' _ _ (mor n 50) q.scr.length _ _ (by omega) (by omega)))
      go_wp2_with fail
      generalize hn1e : mor (mor n 50) q.scr.length = n1 at *
      have hn1l : n1 ≤ 100001 := by rw [← hn1e]; exact mor_le _ _
      have hn1f : n1 ≤ 100000 → n1 = n + 50 + q.scr.length := fun h => by
        rw [← hn1e] at h ⊢
        have e1 := mor_sum h
        have e2 := mor_sum (show mor n 50 ≤ 100000 by omega)
        omega
      have HN1 := Lib.hid hn1f
      clear hn1f hn1e c33 c34 HCW HRL
      obtain ⟨nw, hnw⟩ : ∃ nw, q.wit.length = nw := ⟨_, rfl⟩
      go_loopg [3, 5] (nw + 1) (fun k s3 s5 wx => ∃ (i2 n2 : Nat), k = nw - i2 + 1 ∧ i2 ≤ nw ∧ s3 = .int .i64 n2 ∧ s5 = .int .i64 i2 ∧ n2 ≤ 100001 ∧ (n2 ≤ 100000 → n1 ≤ n2 ∧ 9 * i2 ≤ n2 ∧ ∀ xs ∈ q.wit.take i2, xs.length ≤ 1000000) ∧ Below w.heap.size w wx ∧ Blk wx T 27 #[.int .i32 p.ver, .slice (some ⟨b, o, none⟩) ni ci, .slice Ao no co, .int .u32 p.lock])
      case atStart => exact ⟨0, n1, rfl, Nat.zero_le _, rfl, rfl, hn1l, fun h => ⟨Nat.le_refl _, Nat.zero_le _, fun xs hx => by simp at hx⟩, (Below.nq HB2.out), HT2.out⟩
      case round =>
        obtain ⟨i2, n2, hk2, hi2, rfl, rfl, hn2, hw2, hbx3, hTx3⟩ := hrel
        have t1 := hTx3.cell 1
        change _ = some (Value.slice (some ⟨b, o, none⟩) ni ci) at t1
        obtain ⟨As, cs, Aw, cw, wvs, hr, -, hcw, hrl⟩ := HSRC.out.below hbx3
        have c34 := hr 34 _ (inImg_34 q _ _)
        rw [hnw] at c34 hcw
        have HB3 := Lib.hid hbx3
        have HT3 := Lib.hid hTx3
        have HW2 := Lib.hid hw2
        have HK3 := Lib.hid hk2
        clear hr hbx3 hTx3 hw2 hk2
        rcases (show i2 = nw ∨ (i2 < nw ∧ ¬ n2 ≤ 100000) ∨ (i2 < nw ∧ n2 ≤ 100000) by omega) with g0 | ⟨g0, g3⟩ | ⟨g0, g3⟩
        · subst g0
          clear hcw hrl
          have hd : decide ((i2 : Int) < i2) = false := by simp
          go_wp2_with fail
          have hw1 : (i : Int) + 1 = ((i + 1 : Nat) : Int) := by omega
          go_roundg (ni - (i + 1) + 1)
          case measure => have := HK2.out; omega
          case rel =>
            refine ⟨i + 1, n2, rfl, by omega, rfl, by rw [← hw1], hn2, fun hle => ?_, HB3.out, HT3.out⟩
            obtain ⟨g1, g2, g3⟩ := HW2.out hle
            have e1 := HN1.out (by omega)
            obtain ⟨q1, q2⟩ := HALL.out (by omega)
            refine ⟨by omega, fun x hx => ?_⟩
            rw [List.take_add_one, HQ.out] at hx
            rcases List.mem_append.1 hx with hx | hx
            · exact q2 x hx
            · simp at hx
              subst hx
              rw [List.take_of_length_le (by omega)] at g3
              exact ⟨by omega, by omega, g3⟩
        · clear hcw hrl
          have g3x := g3
          have g1 : (i2 : Int) < (nw : Int) := by omega
          have g4 : ¬ ((n2 : Int) ≤ 100000) := by omega
          go_wp2_with fail
          have hw1 : (i : Int) + 1 = ((i + 1 : Nat) : Int) := by omega
          go_roundg (ni - (i + 1) + 1)
          case measure => have := HK2.out; omega
          case rel =>
            refine ⟨i + 1, n2, rfl, by omega, rfl, by rw [← hw1], hn2, fun hle => ?_, HB3.out, HT3.out⟩
            obtain ⟨g1, g2, g3⟩ := HW2.out hle
            omega
        · have g1 : (i2 : Int) < (nw : Int) := by omega
          have g2 : (0 : Int) ≤ (i2 : Int) := by omega
          have g4 : (n2 : Int) ≤ 100000 := by omega
          have hi28 : (i2 : Int) ≤ 100000 := by have := (HW2.out g3).2.1; omega
          obtain ⟨wb, wo, rfl, hcj⟩ := hcw.2 (by omega)
          obtain ⟨v, hv⟩ : ∃ v, wvs[i2]? = some v := ⟨wvs[i2]'(by rw [hcw.1]; omega), List.getElem?_eq_getElem _⟩
          obtain ⟨xs, hxs⟩ : ∃ xs, q.wit[i2]? = some xs := ⟨q.wit[i2]'(by omega), List.getElem?_eq_getElem _⟩
          obtain ⟨Av, cv, rfl, -⟩ := (hrl.2 i2 v xs hv hxs).slice
          have cj := hcj i2 _ hv
          have HXS := Lib.hid hxs
          clear hcj hv hxs hcw hrl
          go_wp2_with fail
          go_quiet (first | exact Calls.quiet_of_same (more_q' _ _ n2 9 _ _ (by omega) (by omega)) | exact Calls.quiet_of_same (more_q' _ _ (mor n2 9) xs.length _ _ (by omega) (by omega)))
          go_wp2_with fail
          have hw1 : (i2 : Int) + 1 = ((i2 + 1 : Nat) : Int) := by omega
          go_roundg (nw - (i2 + 1) + 1)
          case measure => have := HK3.out; omega
          case rel =>
            refine ⟨i2 + 1, mor (mor n2 9) xs.length, rfl, by omega, rfl, by rw [← hw1], mor_le _ _, fun hle => ?_, (Below.nq HB3.out), HT3.out⟩
            have e1 := mor_sum hle
            have e2 := mor_sum (show mor n2 9 ≤ 100000 by omega)
            obtain ⟨q1, q2, q3⟩ := HW2.out (by omega)
            refine ⟨by omega, by omega, fun x hx => ?_⟩
            rw [List.take_add_one, HXS.out] at hx
            rcases List.mem_append.1 hx with hx | hx
            · exact q3 x hx
            · simp at hx
              subst hx
              omega
end Go.Proofs.YtkgihpebghmnbaaGreatDoor

namespace Go.Proofs.YtkgihpebghmnbaaGreatDoor
open Go.RowKit Go.Proofs

set_option maxRecDepth 100000

theorem same_tell (w : World) (A1 A2 : Option Addr) (n1 n2 c1 c2 : Nat) (ps qs : List UInt8) (h1 : Cells w A1 n1 (bv ps)) (h2 : Cells w A2 n2 (bv qs)) (hn : n1 ≤ 1000000000) :
    Calls Tryz.prog 11 #[.slice A1 n1 c1, .slice A2 n2 c2] w fun e w' => e = .returned (.bool (ps == qs)) ∧ Below w.heap.size w w' := by
  have hl1 : ps.length = n1 := by rw [← bv_length, h1.1]
  have hl2 : qs.length = n2 := by rw [← bv_length, h2.1]
  have H1 := Lib.hid h1
  have H2 := Lib.hid h2
  clear h1 h2
  by_cases hne : n1 = n2
  case neg =>
    have hq : (ps == qs) = false := by simp; rintro rfl; omega
    rw [hq]
    have h3 : ¬ ((n1 : Int) = (n2 : Int)) := by omega
    have h4 : ((n1 : Int) == (n2 : Int)) = false := by simp; omega
    go_enter Tryz.func11, Tryz.ntmps11
    go_wp2
    go_ret
    exact ⟨rfl, Below.refl _ _⟩
  subst hne
  have h4 : ((n1 : Int) == (n1 : Int)) = true := by simp
  go_enter Tryz.func11, Tryz.ntmps11
  go_wp2_with fail
  go_loopg [5] (n1 + 1) (fun k s5 wx => ∃ i : Nat, k = n1 - i + 1 ∧ i ≤ n1 ∧ s5 = .int .i64 i ∧ ps.take i = qs.take i ∧ Below w.heap.size w wx)
  case atStart => exact ⟨0, rfl, Nat.zero_le _, rfl, by simp, Below.refl _ _⟩
  case round =>
    obtain ⟨i, hk, hin, rfl, htk, hbx⟩ := hrel
    have HB := Lib.hid hbx
    have HK := Lib.hid hk
    have HTK := Lib.hid htk
    clear hk htk
    by_cases h0 : i = n1
    · subst h0
      clear hbx
      have hd : decide ((i : Int) < i) = false := by simp
      go_wp2
      go_ret
      refine ⟨?_, HB.out⟩
      have h := HTK.out
      rw [List.take_of_length_le (by omega), List.take_of_length_le (by omega)] at h
      rw [h]
      simp
    · have hi1 : (i : Int) < (n1 : Int) := by omega
      have hi2 : (0 : Int) ≤ (i : Int) := by omega
      obtain ⟨b1, o1, rfl, hc1⟩ := (H1.out.below hbx).2 (by omega)
      obtain ⟨b2, o2, rfl, hc2⟩ := (H2.out.below hbx).2 (by omega)
      obtain ⟨u, hu⟩ : ∃ u, ps[i]? = some u := ⟨ps[i]'(by omega), List.getElem?_eq_getElem _⟩
      obtain ⟨v, hv⟩ : ∃ v, qs[i]? = some v := ⟨qs[i]'(by omega), List.getElem?_eq_getElem _⟩
      have x1 := hc1 i (.int .u8 u.toNat) (by rw [bv_get, hu]; rfl)
      have x2 := hc2 i (.int .u8 v.toNat) (by rw [bv_get, hv]; rfl)
      have HU := Lib.hid hu
      have HV := Lib.hid hv
      clear hc1 hc2 hu hv hbx
      by_cases hq : u = v
      · subst hq
        have h5 : ((u.toNat : Int) == (u.toNat : Int)) = true := by simp
        go_wp2_with fail
        go_quiet (fail)
        go_wp2_with fail
        have hw1 : (i : Int) + 1 = ((i + 1 : Nat) : Int) := by omega
        go_roundg (n1 - (i + 1) + 1)
        case measure => have := HK.out; omega
        case rel =>
          refine ⟨i + 1, rfl, by omega, by rw [← hw1], ?_, ⟨HB.out.os, HB.out.tape, HB.out.output, HB.out.size, HB.out.block⟩⟩
          rw [List.take_add_one, List.take_add_one, HTK.out, HU.out, HV.out]
      · have hq' : ¬ ((u.toNat : Int) = (v.toNat : Int)) := fun e => hq (UInt8.toNat_inj.1 (by omega))
        have h5 : ((u.toNat : Int) == (v.toNat : Int)) = false := by simpa using hq'
        go_wp2_with fail
        go_quiet (fail)
        go_wp2
        go_ret
        refine ⟨?_, ⟨HB.out.os, HB.out.tape, HB.out.output, HB.out.size, HB.out.block⟩⟩
        have : (ps == qs) = false := by
          simp
          rintro rfl
          have e := HU.out.symm.trans HV.out
          injection e with e
          exact hq e
        rw [this]
        rfl
end Go.Proofs.YtkgihpebghmnbaaGreatDoor

namespace Go.Proofs.YtkgihpebghmnbaaGreatDoor
open Go.RowKit Go.Proofs

set_option maxRecDepth 100000

theorem least_long (w : World) (A : Option Addr) (n c : Nat) (op : Int) (h : (76 ≤ n ∧ n ≤ 255 ∧ op = 76) ∨ (256 ≤ n ∧ n ≤ 65535 ∧ op = 77) ∨ (65536 ≤ n ∧ op = 78)) :
    Calls Tryz.prog 21 #[.slice A n c] w fun e w' => e = .returned (.int .i64 op) ∧ w = w' := by
  have a1 : ¬ ((n : Int) = 0) := by omega
  have a2 : ((n : Int) == 0) = false := by simp; omega
  have a3 : ¬ ((n : Int) = 1) := by omega
  have a4 : ((n : Int) == 1) = false := by simp; omega
  have a5 : ¬ ((n : Int) < 76) := by omega
  rcases h with ⟨h1, h2, rfl⟩ | ⟨h1, h2, rfl⟩ | ⟨h1, rfl⟩
  · have a6 : (n : Int) ≤ 255 := by omega
    go_enter Tryz.func21, Tryz.ntmps21
    go_wp2
    go_ret
    exact ⟨rfl, rfl⟩
  · have a6 : ¬ ((n : Int) ≤ 255) := by omega
    have a7 : (n : Int) ≤ 65535 := by omega
    go_enter Tryz.func21, Tryz.ntmps21
    go_wp2
    go_ret
    exact ⟨rfl, rfl⟩
  · have a6 : ¬ ((n : Int) ≤ 255) := by omega
    have a7 : ¬ ((n : Int) ≤ 65535) := by omega
    go_enter Tryz.func21, Tryz.ntmps21
    go_wp2
    go_ret
    exact ⟨rfl, rfl⟩

/-- A number's bytes, the least first, k of them. -/
def lb (n k : Nat) : List UInt8 := (List.range k).map fun j => UInt8.ofNat (n / 256 ^ j)
theorem lb_succ (n k : Nat) : lb n (k + 1) = lb n k ++ [UInt8.ofNat (n / 256 ^ k)] := by simp [lb, List.range_succ]
theorem lb_length (n k : Nat) : (lb n k).length = k := by simp [lb]

/-- The loop's relation. -/
def PdRel (w : World) (op n K : Nat) (k : Nat) (s4 s5 s6 : Value) (wx : World) : Prop :=
  ∃ (i : Nat) (A : Option Addr) (c : Nat), k = K - i + 1 ∧ i ≤ K ∧ s4 = .slice A (1 + i) c ∧ s5 = .int .i64 (n / 256 ^ i : Nat) ∧ s6 = .int .i64 i ∧ wx.ownsRow w.heap.size 5 1 (.slice A (1 + i) c) (1 + i) (.int .u8 op :: bv (lb n i)) ∧ Below w.heap.size w wx

set_option maxHeartbeats 1000000 in
theorem spush_pd76 (w : World) (B : Nat) (A : Option Addr) (c n : Nat) (d : List UInt8) (hdl : d.length = n) (hb : n ≤ 100000000) (hr : Rd B w (.slice A n c) d)
    (hL : Calls Tryz.prog 21 #[.slice A n c] w fun e w' => e = .returned (.int .i64 76) ∧ w = w') :
    Calls Tryz.prog 8 #[.slice A n c] w fun e w' => ∃ A' c', e = .returned (.slice A' (1 + 1 + n) c') ∧ w'.ownsRow w.heap.size 5 1 (.slice A' (1 + 1 + n) c') (1 + 1 + n) (.int .u8 76 :: bv (lb n 1) ++ bv d) ∧ Below w.heap.size w w' := by
  obtain ⟨i0, hi, hz0, hz1, hz2⟩ := info_parts info_u8
  have HL := Lib.hid hL
  have HR := Lib.hid hr
  have hone : Hid (∀ u ∈ bv d, u.oneCell' = true) := by
    intro u hu
    simp only [bv, List.mem_map] at hu
    obtain ⟨b, _, rfl⟩ := hu
    rfl
  have HB0 : Hid (Below w.heap.size w (w.alloc (.cells #[.int .u8 76] 5))) := (Below.refl _ _).alloc (Nat.le_refl _) _
  have HO0 := Lib.hid (own_one w w.heap.size 5 (.int .u8 76) (Nat.le_refl _))
  clear hL hr
  go_enter Tryz.func8, Tryz.ntmps8
  go_wp2_with fail
  refine HL.out.mono ?_
  rintro e w1 ⟨rfl, rfl⟩
  go_wp2
  go_loopg [4, 5, 6] (1 + 1) (fun k s4 s5 s6 wx => PdRel w 76 n 1 k s4 s5 s6 wx)
  case atStart => exact ⟨0, _, _, rfl, Nat.zero_le _, rfl, by simp, rfl, HO0.out, HB0.out⟩
  case round =>
    obtain ⟨i, A1, c1, rfl, hin, rfl, rfl, rfl, hown, hbel⟩ := hrel
    have HO := Lib.hid hown
    have HB := Lib.hid hbel
    clear hown hbel
    generalize hq : n / 256 ^ i = q at *
    have hq0 : (0 : Int) ≤ (q : Int) := by omega
    have hqn : q ≤ 100000000 := by rw [← hq]; exact Nat.le_trans (Nat.div_le_self _ _) hb
    have hqi : (q : Int) ≤ 100000000 := by omega
    by_cases h0 : i = 1
    · subst h0
      go_wp2_with (at_builtin; refine Stop.mk ?_)
      refine Stop.go ?_
      refine wpList_append_cells _ rfl (.tmp 39) (.tmp 40) 30 rfl w.heap.size 5 i0 _ 1 Tryz.underlying30 hi hz0 hz1 hz2 rfl _ (1 + 1) (.int .u8 76 :: bv (lb n 1)) rfl HO.out A n c (bv d) rfl (Cells.of_rd (HR.out.below HB.out)) hone.out (by omega) (by omega) HB.out.size ?_
      intro v' w2 hown' hgrow hat
      obtain ⟨A', c', rfl⟩ := own_form hown'
      have HB2 := Lib.hid (HB.out.grown hgrow HB.out.size (fun k hk => (HO.out.lt k hk).1))
      have HO2 := Lib.hid hown'
      clear hown' hgrow hat
      go_wp2
      go_ret
      exact ⟨_, _, rfl, HO2.out, HB2.out⟩
    · have h1 : (i : Int) < 1 := by omega
      have h1' : i < 1 := by omega
      have hi4 : (i : Int) ≤ 8 := by omega
      have hi00 : (0 : Int) ≤ (i : Int) := by omega
      have hlb : bv (lb n (i + 1)) = bv (lb n i) ++ [.int .u8 (q % 256 : Int)] := by
        rw [lb_succ, bv_append, hq]
        have : ((UInt8.ofNat q).toNat : Int) = (q : Int) % 256 := by simp
        simp [bv]
      have HLB := Lib.hid hlb
      have hba : Below wr.heap.size wr (wr.alloc (.cells #[.int .u8 (q % 256 : Int)] 5)) := (Below.refl _ _).alloc (Nat.le_refl _) _
      have HBA := Lib.hid hba
      have hdiv : (q : Int) / 256 = ((n / 256 ^ (i + 1) : Nat) : Int) := by
        rw [Nat.pow_succ, ← Nat.div_div_eq_div_mul, hq]
        omega
      have HDIV := Lib.hid hdiv
      clear hlb hba hdiv
      go_wp2_with (at_builtin; refine Stop.mk ?_)
      refine Stop.go ?_
      refine wpList_append_cells _ rfl (.tmp 32) (.tmp 35) 30 rfl w.heap.size 5 i0 _ 1 Tryz.underlying30 hi hz0 hz1 hz2 rfl (.slice A1 (1 + i) c1) (1 + i) (.int .u8 76 :: bv (lb n i)) rfl (own_below HO.out HBA.out) (some ⟨wr.heap.size, 0, none⟩) 1 1 [.int .u8 (q % 256 : Int)] rfl (Cells.one wr _ _) (by intro u hu; simp at hu; subst hu; rfl) (by omega) (by omega) (by have := HB.out.size; simp; omega) ?_
      intro v' w2 hown' hgrow hat
      obtain ⟨A', c', rfl⟩ := own_form hown'
      have HB2 := Lib.hid ((HB.out.alloc HB.out.size _).grown hgrow (by have := HB.out.size; simp; omega) (fun k hk => ((own_below HO.out HBA.out).lt k hk).1))
      have HO2 := Lib.hid hown'
      clear hown' hgrow hat
      go_wp2_with fail
      have hw2 : (i : Int) + 1 = ((i + 1 : Nat) : Int) := by omega
      go_roundg (1 - (i + 1) + 1)
      case measure => omega
      case rel =>
        refine ⟨i + 1, A', c', rfl, by omega, rfl, ?_, ?_, ?_, HB2.out⟩
        · rw [← HDIV.out]
        · rw [← hw2]
        · rw [HLB.out]
          exact HO2.out

set_option maxHeartbeats 1000000 in
theorem spush_pd77 (w : World) (B : Nat) (A : Option Addr) (c n : Nat) (d : List UInt8) (hdl : d.length = n) (hb : n ≤ 100000000) (hr : Rd B w (.slice A n c) d)
    (hL : Calls Tryz.prog 21 #[.slice A n c] w fun e w' => e = .returned (.int .i64 77) ∧ w = w') :
    Calls Tryz.prog 8 #[.slice A n c] w fun e w' => ∃ A' c', e = .returned (.slice A' (1 + 2 + n) c') ∧ w'.ownsRow w.heap.size 5 1 (.slice A' (1 + 2 + n) c') (1 + 2 + n) (.int .u8 77 :: bv (lb n 2) ++ bv d) ∧ Below w.heap.size w w' := by
  obtain ⟨i0, hi, hz0, hz1, hz2⟩ := info_parts info_u8
  have HL := Lib.hid hL
  have HR := Lib.hid hr
  have hone : Hid (∀ u ∈ bv d, u.oneCell' = true) := by
    intro u hu
    simp only [bv, List.mem_map] at hu
    obtain ⟨b, _, rfl⟩ := hu
    rfl
  have HB0 : Hid (Below w.heap.size w (w.alloc (.cells #[.int .u8 77] 5))) := (Below.refl _ _).alloc (Nat.le_refl _) _
  have HO0 := Lib.hid (own_one w w.heap.size 5 (.int .u8 77) (Nat.le_refl _))
  clear hL hr
  go_enter Tryz.func8, Tryz.ntmps8
  go_wp2_with fail
  refine HL.out.mono ?_
  rintro e w1 ⟨rfl, rfl⟩
  go_wp2
  go_loopg [4, 5, 6] (2 + 1) (fun k s4 s5 s6 wx => PdRel w 77 n 2 k s4 s5 s6 wx)
  case atStart => exact ⟨0, _, _, rfl, Nat.zero_le _, rfl, by simp, rfl, HO0.out, HB0.out⟩
  case round =>
    obtain ⟨i, A1, c1, rfl, hin, rfl, rfl, rfl, hown, hbel⟩ := hrel
    have HO := Lib.hid hown
    have HB := Lib.hid hbel
    clear hown hbel
    generalize hq : n / 256 ^ i = q at *
    have hq0 : (0 : Int) ≤ (q : Int) := by omega
    have hqn : q ≤ 100000000 := by rw [← hq]; exact Nat.le_trans (Nat.div_le_self _ _) hb
    have hqi : (q : Int) ≤ 100000000 := by omega
    by_cases h0 : i = 2
    · subst h0
      go_wp2_with (at_builtin; refine Stop.mk ?_)
      refine Stop.go ?_
      refine wpList_append_cells _ rfl (.tmp 39) (.tmp 40) 30 rfl w.heap.size 5 i0 _ 1 Tryz.underlying30 hi hz0 hz1 hz2 rfl _ (1 + 2) (.int .u8 77 :: bv (lb n 2)) rfl HO.out A n c (bv d) rfl (Cells.of_rd (HR.out.below HB.out)) hone.out (by omega) (by omega) HB.out.size ?_
      intro v' w2 hown' hgrow hat
      obtain ⟨A', c', rfl⟩ := own_form hown'
      have HB2 := Lib.hid (HB.out.grown hgrow HB.out.size (fun k hk => (HO.out.lt k hk).1))
      have HO2 := Lib.hid hown'
      clear hown' hgrow hat
      go_wp2
      go_ret
      exact ⟨_, _, rfl, HO2.out, HB2.out⟩
    · have h1 : (i : Int) < 2 := by omega
      have h1' : i < 2 := by omega
      have hi4 : (i : Int) ≤ 8 := by omega
      have hi00 : (0 : Int) ≤ (i : Int) := by omega
      have hlb : bv (lb n (i + 1)) = bv (lb n i) ++ [.int .u8 (q % 256 : Int)] := by
        rw [lb_succ, bv_append, hq]
        have : ((UInt8.ofNat q).toNat : Int) = (q : Int) % 256 := by simp
        simp [bv]
      have HLB := Lib.hid hlb
      have hba : Below wr.heap.size wr (wr.alloc (.cells #[.int .u8 (q % 256 : Int)] 5)) := (Below.refl _ _).alloc (Nat.le_refl _) _
      have HBA := Lib.hid hba
      have hdiv : (q : Int) / 256 = ((n / 256 ^ (i + 1) : Nat) : Int) := by
        rw [Nat.pow_succ, ← Nat.div_div_eq_div_mul, hq]
        omega
      have HDIV := Lib.hid hdiv
      clear hlb hba hdiv
      go_wp2_with (at_builtin; refine Stop.mk ?_)
      refine Stop.go ?_
      refine wpList_append_cells _ rfl (.tmp 32) (.tmp 35) 30 rfl w.heap.size 5 i0 _ 1 Tryz.underlying30 hi hz0 hz1 hz2 rfl (.slice A1 (1 + i) c1) (1 + i) (.int .u8 77 :: bv (lb n i)) rfl (own_below HO.out HBA.out) (some ⟨wr.heap.size, 0, none⟩) 1 1 [.int .u8 (q % 256 : Int)] rfl (Cells.one wr _ _) (by intro u hu; simp at hu; subst hu; rfl) (by omega) (by omega) (by have := HB.out.size; simp; omega) ?_
      intro v' w2 hown' hgrow hat
      obtain ⟨A', c', rfl⟩ := own_form hown'
      have HB2 := Lib.hid ((HB.out.alloc HB.out.size _).grown hgrow (by have := HB.out.size; simp; omega) (fun k hk => ((own_below HO.out HBA.out).lt k hk).1))
      have HO2 := Lib.hid hown'
      clear hown' hgrow hat
      go_wp2_with fail
      have hw2 : (i : Int) + 1 = ((i + 1 : Nat) : Int) := by omega
      go_roundg (2 - (i + 1) + 1)
      case measure => omega
      case rel =>
        refine ⟨i + 1, A', c', rfl, by omega, rfl, ?_, ?_, ?_, HB2.out⟩
        · rw [← HDIV.out]
        · rw [← hw2]
        · rw [HLB.out]
          exact HO2.out

set_option maxHeartbeats 1000000 in
theorem spush_pd78 (w : World) (B : Nat) (A : Option Addr) (c n : Nat) (d : List UInt8) (hdl : d.length = n) (hb : n ≤ 100000000) (hr : Rd B w (.slice A n c) d)
    (hL : Calls Tryz.prog 21 #[.slice A n c] w fun e w' => e = .returned (.int .i64 78) ∧ w = w') :
    Calls Tryz.prog 8 #[.slice A n c] w fun e w' => ∃ A' c', e = .returned (.slice A' (1 + 4 + n) c') ∧ w'.ownsRow w.heap.size 5 1 (.slice A' (1 + 4 + n) c') (1 + 4 + n) (.int .u8 78 :: bv (lb n 4) ++ bv d) ∧ Below w.heap.size w w' := by
  obtain ⟨i0, hi, hz0, hz1, hz2⟩ := info_parts info_u8
  have HL := Lib.hid hL
  have HR := Lib.hid hr
  have hone : Hid (∀ u ∈ bv d, u.oneCell' = true) := by
    intro u hu
    simp only [bv, List.mem_map] at hu
    obtain ⟨b, _, rfl⟩ := hu
    rfl
  have HB0 : Hid (Below w.heap.size w (w.alloc (.cells #[.int .u8 78] 5))) := (Below.refl _ _).alloc (Nat.le_refl _) _
  have HO0 := Lib.hid (own_one w w.heap.size 5 (.int .u8 78) (Nat.le_refl _))
  clear hL hr
  go_enter Tryz.func8, Tryz.ntmps8
  go_wp2_with fail
  refine HL.out.mono ?_
  rintro e w1 ⟨rfl, rfl⟩
  go_wp2
  go_loopg [4, 5, 6] (4 + 1) (fun k s4 s5 s6 wx => PdRel w 78 n 4 k s4 s5 s6 wx)
  case atStart => exact ⟨0, _, _, rfl, Nat.zero_le _, rfl, by simp, rfl, HO0.out, HB0.out⟩
  case round =>
    obtain ⟨i, A1, c1, rfl, hin, rfl, rfl, rfl, hown, hbel⟩ := hrel
    have HO := Lib.hid hown
    have HB := Lib.hid hbel
    clear hown hbel
    generalize hq : n / 256 ^ i = q at *
    have hq0 : (0 : Int) ≤ (q : Int) := by omega
    have hqn : q ≤ 100000000 := by rw [← hq]; exact Nat.le_trans (Nat.div_le_self _ _) hb
    have hqi : (q : Int) ≤ 100000000 := by omega
    by_cases h0 : i = 4
    · subst h0
      go_wp2_with (at_builtin; refine Stop.mk ?_)
      refine Stop.go ?_
      refine wpList_append_cells _ rfl (.tmp 39) (.tmp 40) 30 rfl w.heap.size 5 i0 _ 1 Tryz.underlying30 hi hz0 hz1 hz2 rfl _ (1 + 4) (.int .u8 78 :: bv (lb n 4)) rfl HO.out A n c (bv d) rfl (Cells.of_rd (HR.out.below HB.out)) hone.out (by omega) (by omega) HB.out.size ?_
      intro v' w2 hown' hgrow hat
      obtain ⟨A', c', rfl⟩ := own_form hown'
      have HB2 := Lib.hid (HB.out.grown hgrow HB.out.size (fun k hk => (HO.out.lt k hk).1))
      have HO2 := Lib.hid hown'
      clear hown' hgrow hat
      go_wp2
      go_ret
      exact ⟨_, _, rfl, HO2.out, HB2.out⟩
    · have h1 : (i : Int) < 4 := by omega
      have h1' : i < 4 := by omega
      have hi4 : (i : Int) ≤ 8 := by omega
      have hi00 : (0 : Int) ≤ (i : Int) := by omega
      have hlb : bv (lb n (i + 1)) = bv (lb n i) ++ [.int .u8 (q % 256 : Int)] := by
        rw [lb_succ, bv_append, hq]
        have : ((UInt8.ofNat q).toNat : Int) = (q : Int) % 256 := by simp
        simp [bv]
      have HLB := Lib.hid hlb
      have hba : Below wr.heap.size wr (wr.alloc (.cells #[.int .u8 (q % 256 : Int)] 5)) := (Below.refl _ _).alloc (Nat.le_refl _) _
      have HBA := Lib.hid hba
      have hdiv : (q : Int) / 256 = ((n / 256 ^ (i + 1) : Nat) : Int) := by
        rw [Nat.pow_succ, ← Nat.div_div_eq_div_mul, hq]
        omega
      have HDIV := Lib.hid hdiv
      clear hlb hba hdiv
      go_wp2_with (at_builtin; refine Stop.mk ?_)
      refine Stop.go ?_
      refine wpList_append_cells _ rfl (.tmp 32) (.tmp 35) 30 rfl w.heap.size 5 i0 _ 1 Tryz.underlying30 hi hz0 hz1 hz2 rfl (.slice A1 (1 + i) c1) (1 + i) (.int .u8 78 :: bv (lb n i)) rfl (own_below HO.out HBA.out) (some ⟨wr.heap.size, 0, none⟩) 1 1 [.int .u8 (q % 256 : Int)] rfl (Cells.one wr _ _) (by intro u hu; simp at hu; subst hu; rfl) (by omega) (by omega) (by have := HB.out.size; simp; omega) ?_
      intro v' w2 hown' hgrow hat
      obtain ⟨A', c', rfl⟩ := own_form hown'
      have HB2 := Lib.hid ((HB.out.alloc HB.out.size _).grown hgrow (by have := HB.out.size; simp; omega) (fun k hk => ((own_below HO.out HBA.out).lt k hk).1))
      have HO2 := Lib.hid hown'
      clear hown' hgrow hat
      go_wp2_with fail
      have hw2 : (i : Int) + 1 = ((i + 1 : Nat) : Int) := by omega
      go_roundg (4 - (i + 1) + 1)
      case measure => omega
      case rel =>
        refine ⟨i + 1, A', c', rfl, by omega, rfl, ?_, ?_, ?_, HB2.out⟩
        · rw [← HDIV.out]
        · rw [← hw2]
        · rw [HLB.out]
          exact HO2.out

/-- spec.Push: bytes of its own, hardly more than came in; the shortest push, where the bytes are few. -/
theorem spush_any (w : World) (B : Nat) (A : Option Addr) (c : Nat) (d : List UInt8) (hd : d.length ≤ 100000000) (h : Rd B w (.slice A d.length c) d) :
    Calls Tryz.prog 8 #[.slice A d.length c] w fun e w' => ∃ A' c' es, e = .returned (.slice A' es.length c') ∧ w'.ownsRow w.heap.size 5 1 (.slice A' es.length c') es.length (bv es) ∧ es.length ≤ d.length + 5 ∧ (d.length ≤ 65535 → es = (pushT d).enc) ∧ Below w.heap.size w w' := by
  by_cases h75 : d.length ≤ 75
  · have hL := least_any w B A c d h h75
    by_cases h0 : d.length = 0
    · have : d = [] := List.eq_nil_of_length_eq_zero h0
      subst this
      refine (spush_op w A 0 c 0 (.inl rfl) hL).mono ?_
      rintro e w' ⟨A', c', rfl, h2, h3⟩
      exact ⟨A', c', [0], rfl, h2, by simp, fun _ => rfl, h3⟩
    · by_cases h1 : d.length = 1 ∧ 1 ≤ (d.getD 0 0).toNat ∧ (d.getD 0 0).toNat ≤ 16
      · have e : pushT d = ⟨80 + (d.getD 0 0).toNat, []⟩ := by unfold pushT; rw [if_neg h0, if_pos h1]
        have en : (pushT d).enc = [UInt8.ofNat (80 + (d.getD 0 0).toNat)] := by
          rw [e]; unfold Tok.enc
          simp only
          rw [if_neg (by omega), if_neg (by omega), if_neg (by omega), if_neg (by omega)]
        have ev0 : ∀ y : Nat, y ≤ 16 → (UInt8.ofNat (80 + y)).toNat = 80 + y := fun y hy => by simp; omega
        have ev := ev0 _ h1.2.2
        rw [e] at hL
        refine (spush_op w A d.length c (80 + (d.getD 0 0).toNat) (.inr (by omega)) hL).mono ?_
        rintro e w' ⟨A', c', rfl, h2, h3⟩
        refine ⟨A', c', (pushT d).enc, by rw [en]; rfl, ?_, by rw [en]; simp, fun _ => rfl, h3⟩
        rw [en]
        show w'.ownsRow _ _ _ _ _ [.int .u8 ((UInt8.ofNat (80 + (d.getD 0 0).toNat)).toNat : Int)]
        rw [ev]
        exact h2
      · by_cases h2 : d.length = 1 ∧ (d.getD 0 0).toNat = 129
        · have e : pushT d = ⟨79, []⟩ := by unfold pushT; rw [if_neg h0, if_neg h1, if_pos h2]
          rw [e] at hL
          refine (spush_op w A d.length c 79 (.inr (by omega)) hL).mono ?_
          rintro e' w' ⟨A', c', rfl, h2, h3⟩
          exact ⟨A', c', (pushT d).enc, by rw [e]; rfl, by rw [e]; exact h2, by rw [e]; simp [Tok.enc], fun _ => rfl, h3⟩
        · have e : pushT d = ⟨d.length, d⟩ := by unfold pushT; rw [if_neg h0, if_neg h1, if_neg h2, if_pos (by omega)]
          have en : (pushT d).enc = UInt8.ofNat d.length :: d := by
            rw [e]; unfold Tok.enc
            simp only
            rw [if_neg h0, if_pos (by omega)]
          have ev : (UInt8.ofNat d.length).toNat = d.length := by simp; omega
          rw [e] at hL
          refine (spush_data w B A c d (by omega) (by omega) h hL).mono ?_
          rintro e w' ⟨A', c', rfl, h2, h3⟩
          have el : (UInt8.ofNat d.length :: d).length = 1 + d.length := by simp; omega
          refine ⟨A', c', (pushT d).enc, by rw [en, el], ?_, by rw [en, el]; omega, fun _ => rfl, h3⟩
          rw [en, el]
          show w'.ownsRow _ _ _ _ _ (.int .u8 ((UInt8.ofNat d.length).toNat : Int) :: bv d)
          rw [ev]
          exact h2
  · have h0 : ¬ d.length = 0 := by omega
    have h1 : ¬ (d.length = 1 ∧ 1 ≤ (d.getD 0 0).toNat ∧ (d.getD 0 0).toNat ≤ 16) := fun h => by omega
    have h2 : ¬ (d.length = 1 ∧ (d.getD 0 0).toNat = 129) := fun h => by omega
    by_cases h255 : d.length ≤ 255
    · refine (spush_pd76 w B A c d.length d rfl hd h (least_long w A _ c 76 (.inl ⟨by omega, h255, rfl⟩))).mono ?_
      rintro e w' ⟨A', c', rfl, h3, h4⟩
      have e : pushT d = ⟨76, d⟩ := by unfold pushT; rw [if_neg h0, if_neg h1, if_neg h2, if_neg h75, if_pos h255]
      have en : (pushT d).enc = 76 :: lb d.length 1 ++ d := by
        rw [e]; unfold Tok.enc
        rw [if_neg (by simp), if_neg (by simp), if_pos rfl]
        simp [lb, List.range_succ]
      refine ⟨A', c', (pushT d).enc, ?_, ?_, by rw [en]; simp [lb_length]; omega, fun _ => rfl, h4⟩
      · rw [en]; simp [lb_length]; omega
      · have el : (pushT d).enc.length = 1 + 1 + d.length := by rw [en]; simp [lb_length]; omega
        rw [el, en, bv_append]
        exact h3
    · by_cases h65 : d.length ≤ 65535
      · refine (spush_pd77 w B A c d.length d rfl hd h (least_long w A _ c 77 (.inr (.inl ⟨by omega, h65, rfl⟩)))).mono ?_
        rintro e w' ⟨A', c', rfl, h3, h4⟩
        have e : pushT d = ⟨77, d⟩ := by unfold pushT; rw [if_neg h0, if_neg h1, if_neg h2, if_neg h75, if_neg h255]
        have en : (pushT d).enc = 77 :: lb d.length 2 ++ d := by
          rw [e]; unfold Tok.enc
          rw [if_neg (by simp), if_neg (by simp), if_neg (by simp), if_pos rfl]
          have e1 : UInt8.ofNat (d.length % 256) = UInt8.ofNat d.length := by
            apply UInt8.toNat_inj.1
            simp
          simp [lb, List.range_succ, e1]
        refine ⟨A', c', (pushT d).enc, ?_, ?_, by rw [en]; simp [lb_length]; omega, fun _ => rfl, h4⟩
        · rw [en]; simp [lb_length]; omega
        · have el : (pushT d).enc.length = 1 + 2 + d.length := by rw [en]; simp [lb_length]; omega
          rw [el, en, bv_append]
          exact h3
      · refine (spush_pd78 w B A c d.length d rfl hd h (least_long w A _ c 78 (.inr (.inr ⟨by omega, rfl⟩)))).mono ?_
        rintro e w' ⟨A', c', rfl, h3, h4⟩
        have el : (78 :: lb d.length 4 ++ d).length = 1 + 4 + d.length := by simp [lb_length]; omega
        refine ⟨A', c', 78 :: lb d.length 4 ++ d, by rw [el], ?_, by rw [el]; omega, fun h => by omega, h4⟩
        rw [el, bv_append]
        exact h3
end Go.Proofs.YtkgihpebghmnbaaGreatDoor
