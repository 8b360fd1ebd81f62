/- Pushes of some elements, and a true one behind them: the machine run from the first to the end. -/
import Derived.Test.YtafpgikhcjildaaGreatDoorLockGo
import Derived.Test.YtafpgikhcjildaaGreatDoorNeg
import Derived.Test.YtafpgikhcjildaaGreatDoorMin
namespace Go.Proofs.YtafpgikhcjildaaGreatDoor
open Go.RowKit Go.Proofs

set_option maxRecDepth 100000

/-- The last check, where a truth lies on top. -/
theorem check_top (w : World) (g : Nat) (B : Bd) (sb : Nat) (fl : Int) (cs : Array Value) (xss : List (List UInt8)) (h : Vm w g B cs (xss ++ [[1]])) (hx : xss.length ≤ 100000) (h0 : cs[0]? = some (.int .u32 fl)) (hfl : bits .and .u32 fl 32 = 0) (h30 : cs[30]? = some (.slice none 0 0)) (h32 : cs[32]? = some (.pointer none))
    (h11 : cs[11]? = some (.slice (some ⟨sb, 0, none⟩) 2 2)) (h12 : cs[12]? = some (.int .i64 2)) :
    Calls Tryz.prog 25 #[.pointer (some ⟨g, 0, none⟩), .bool true] w fun e w' => e = .returned .nilIface ∧ ∃ cs', Vm w' g B cs' xss ∧ K23 cs cs' ∧ Fs g B w w' := by
  have c0 := (h.blk.cell 0).trans h0
  have c11 := (h.blk.cell 11).trans h11
  have c12 := (h.blk.cell 12).trans h12
  have c30 := (h.blk.cell 30).trans h30
  have c32 := (h.blk.cell 32).trans h32
  obtain ⟨A0, cc0, items, h23, -, -⟩ := h.stk
  obtain ⟨d, hd⟩ : ∃ d : Nat, (xss ++ [[1]]).length = d := ⟨_, rfl⟩
  rw [hd] at h23
  have hd1 : d = xss.length + 1 := by rw [← hd]; simp
  have hd2 : ¬ ((d : Int) < 1) := by omega
  have c23 := (h.blk.cell 23).trans h23
  have hbl := h.blk.lt
  have HV := Lib.hid h
  clear h h0 h11 h12 h30 h32 h23
  go_enter Tryz.func25, Tryz.ntmps25
  go_wp2_with fail
  go_quiet (fail)
  go_wp2_with fail
  refine (witActive_any (w.drewN nq) g _ c30).mono ?_
  rintro e w1 ⟨rfl, rfl⟩
  go_wp2_with fail
  refine (hasFlag_any (w.drewN nq) g fl 32 0 hfl c0).mono ?_
  rintro e w1 ⟨rfl, rfl⟩
  go_wp2_with fail
  refine (depth_any (w.drewN nq) g 23 d cc0 A0 (by omega) c23).mono ?_
  rintro e w1 ⟨rfl, rfl⟩
  go_wp2_with fail
  refine (popBool_vm (w.drewN nq) g B _ xss (HV.out.drewN nq) hx).mono ?_
  rintro e w1 ⟨rfl, cs', hv, hk, hf⟩
  have hv := Lib.hid hv
  have hk := Lib.hid hk
  have hf := Lib.hid (((Fs.refl g B w).drewN _).trans hf)
  go_wp2
  go_ret
  exact ⟨rfl, cs', hv.out, hk.out, hf.out⟩

theorem tokS_pushT (d : List UInt8) (h : d.length ≤ 65535) : TokS (pushT d) := by
  unfold pushT
  split
  · exact .inl ⟨rfl, .inl rfl, by simp, _, op0⟩
  · split
    · rename_i h1
      obtain ⟨ha, hb, hc⟩ := h1
      exact .inl ⟨rfl, .inr (show 78 < 80 + (d.getD 0 0).toNat by omega), (show 80 + (d.getD 0 0).toNat ≤ 255 by omega), op_n (80 + (d.getD 0 0).toNat) (by omega) (by omega)⟩
    · split
      · exact .inl ⟨rfl, .inr (show 78 < 79 by omega), (show 79 ≤ 255 by omega), _, op79⟩
      · split
        · exact .inr (.inl ⟨by simp only; omega, by simp only; omega, rfl⟩)
        · split
          · exact .inr (.inr (.inl ⟨rfl, by simp only; omega, by simp only; omega⟩))
          · exact .inr (.inr (.inr ⟨rfl, by simp only; omega, by simp only; omega⟩))

section
variable {w w1 w' : World} {g : Nat} {B : Bd} {k : Nat} {cs cs1 : Array Value} {xss : List (List UInt8)}

theorem min_ok {ob v n c : Nat} {A : Option Addr} (mn : Bool) (h : w.cell? ⟨g, 24, none⟩ = some (.bool mn)) (hm : 78 < v ∨ (v ≤ 78 ∧ MinLets w ob n c A)) : MinOk w g ob v n c A := by
  cases mn
  · exact .inl h
  · exact .inr ⟨h, hm⟩

/-- The shortest push of bytes, by whatever rules. -/
theorem push_gen {sb si oi off ob n c : Nat} {A : Option Addr} {sl : Value} {pos : Int} (d : List UInt8) (hd : d.length ≤ 520) (mn : Bool) (hv : Vm w1 g B cs1 xss) (he : En cs1 sb si k oi sl off pos) (h24 : cs1[24]? = some (.bool mn)) (hx : xss.length ≤ 100000)
    (hob : w1.cell? ⟨ob, 0, none⟩ = some (.int .u8 (pushT d).op)) (hn : n = (pushT d).data.length) (hrd : Rd 0 w1 (.slice A n c) (pushT d).data) :
    Calls Tryz.prog 36 #[.pointer (some ⟨g, 0, none⟩), .pointer (some ⟨ob, 0, none⟩), .slice A n c] w1 (Ran w1 g B cs1 k (xss ++ [d]) True False) := by
  have c24 := (hv.blk.cell 24).trans h24
  unfold pushT at hob hn hrd
  split at hob
  · rename_i h0
    rw [if_pos h0] at hn hrd
    have : d = [] := List.eq_nil_of_length_eq_zero h0
    subst this
    simp only [List.length_nil] at hn
    subst hn
    exact small_ran hv he (by omega) (by omega) runs0 hob (min_ok mn c24 (.inr ⟨by omega, min0 w1 ob c A hob⟩)) (false_vm w1 g B cs1 xss _ _ hv hx)
  · rename_i h0
    rw [if_neg h0] at hn hrd
    split at hob
    · rename_i h1
      rw [if_pos h1] at hn hrd
      obtain ⟨ha, hb, hc⟩ := h1
      have hr := runs_n (80 + (d.getD 0 0).toNat) (by omega) (by omega)
      have hd1 : d = [UInt8.ofNat (80 + (d.getD 0 0).toNat - 80)] := by
        rw [show 80 + (d.getD 0 0).toNat - 80 = (d.getD 0 0).toNat from by omega]
        conv => lhs; rw [one_byte ha]
        simp
      have hE := opcodeN_vm w1 g B ob cs1 xss (.slice A n c) (80 + (d.getD 0 0).toNat) (by omega) (by omega) hob hv hx
      rw [← hd1] at hE
      exact small_ran hv he (by omega) (by simp at hn; omega) hr hob (min_ok mn c24 (.inl (by omega))) hE
    · rename_i h1
      rw [if_neg h1] at hn hrd
      split at hob
      · rename_i h2
        rw [if_pos h2] at hn hrd
        obtain ⟨ha, hb⟩ := h2
        have hd1 : d = [129] := by
          have h3 := one_byte ha
          have h4 : d.getD 0 0 = 129 := by
            apply UInt8.toNat_inj.1
            rw [hb]
            rfl
          rw [h4] at h3
          exact h3
        have hE := neg_vm w1 g B cs1 xss (.pointer (some ⟨ob, 0, none⟩)) (.slice A n c) hv hx
        rw [← hd1] at hE
        exact small_ran hv he (by omega) (by simp at hn; omega) runs79 hob (min_ok mn c24 (.inl (by omega))) hE
      · rename_i h2
        rw [if_neg h2] at hn hrd
        split at hob
        · rename_i h3
          rw [if_pos h3] at hn hrd
          simp only at hn hrd hob
          subst hn
          refine small_ran hv he (by omega) (by omega) (runs_push d.length (by omega) (by omega)) hob (min_ok mn c24 (.inr ⟨by omega, ?_⟩)) (pushData_vm w1 g B cs1 xss _ _ d hv hrd hx)
          by_cases h4 : d.length = 1
          · obtain ⟨b, o, rfl, hc⟩ := hrd.cell (j := 0) (by omega)
            rw [Nat.add_zero] at hc
            rw [h4] at hob ⊢
            exact min1 w1 ob c b o _ hob hc (by
              have h5 : ¬ (1 ≤ (d.getD 0 0).toNat ∧ (d.getD 0 0).toNat ≤ 16) := fun h => h1 ⟨h4, h⟩
              have h6 : ¬ ((d.getD 0 0).toNat = 129) := fun h => h2 ⟨h4, h⟩
              omega)
          · exact minN w1 ob c d.length A _ hob (by omega) (.inl ⟨by omega, rfl⟩)
        · rename_i h3
          rw [if_neg h3] at hn hrd
          split at hob
          · rename_i h4
            rw [if_pos h4] at hn hrd
            simp only at hn hrd hob
            subst hn
            exact small_ran hv he (by omega) (by omega) (runs_push 76 (by omega) (by omega)) hob (min_ok mn c24 (.inr ⟨by omega, minN w1 ob c d.length A _ hob (by omega) (.inr (.inl ⟨by omega, by omega, rfl⟩))⟩)) (pushData_vm w1 g B cs1 xss _ _ d hv hrd hx)
          · rename_i h4
            rw [if_neg h4] at hn hrd
            simp only at hn hrd hob
            subst hn
            exact small_ran hv he (by omega) (by omega) (runs_push 77 (by omega) (by omega)) hob (min_ok mn c24 (.inr ⟨by omega, minN w1 ob c d.length A _ hob (by omega) (.inr (.inr ⟨by omega, by omega, rfl⟩))⟩)) (pushData_vm w1 g B cs1 xss _ _ d hv hrd hx)
end

/-- Some pushes, and a true element behind them: they run to the script's end. -/
theorem pushes_goes {R : Value → World → Prop} (mn : Bool) (bs : List UInt8) {g : Nat} {B : Bd} {sb pb po n c k : Nat} (hn : n ≤ 10000) (ds : List (List UInt8)) : ∀ {w : World} {cs : Array Value} {xss : List (List UInt8)} {off oi : Nat} {pos : Int},
    Vm w g B cs xss → En cs sb 1 k oi (.slice (some ⟨pb, po, none⟩) n c) off pos → cs[24]? = some (.bool mn) → cs[33]? = some .nilFunc → Rd 0 w (.slice (some ⟨pb, po, none⟩) n c) bs → bs.drop off = code (ds.map pushT) ++ [81] → (∀ d ∈ ds, d.length ≤ 520) →
    xss.length + ds.length < 1000 → oi + ds.length ≤ 100000 → -1 ≤ pos → pos + ds.length ≤ 100000 →
    (∀ w' cs', Vm w' g B cs' (xss ++ ds ++ [[1]]) → cs'[12]? = some (.int .i64 2) → Kp cs cs' → Fs g B w w' → Ends g R w') → Goes g R (ds.length + 1) w := by
  induction ds with
  | nil =>
    intro w cs xss off oi pos hV hE h24 h33 hrd hdrop hds hx hoi hp0 hp hfin
    have hlen : n = off + 1 := by
      have h1 := congrArg List.length hdrop
      have h2 := hrd.len.1
      simp [code] at h1
      omega
    obtain ⟨nm, dA, dc, i⟩ := stepIn_tok (t := ⟨81, []⟩) (rest := []) (xs1 := xss ++ [[1]]) (G := True) (F := False) (k' := k) hV hE (by omega) (by omega) (by simp at hoi; omega) (by simp at hx ⊢; omega) hrd
      (by rw [hdrop]; rfl) (.inl ⟨rfl, .inr (show 78 < 81 by omega), (show 81 ≤ 255 by omega), _, op81⟩) hp0 (by simp at hp; omega)
      (fun dA dc w1 cs1 hr hv1 he1 hk1 _ hob _ => small_ran hv1 he1 (by omega) (by simp) runs81 hob (min_ok mn ((hv1.blk.cell 24).trans ((hk1 24 (by omega)).trans h24)) (.inl (by omega))) (opcodeN_vm w1 g B _ cs1 xss _ 81 (by omega) (by omega) hob hv1 (by simp at hx; omega)))
    refine goes_end i (by have := len81; omega) h33 ?_ (fun _ _ _ _ hF _ _ => hF.elim)
    intro w1 cs1 _ hv1 h12 hk1 hf1
    exact hfin w1 cs1 (by simpa using hv1) h12 hk1 hf1
  | cons d ds ih =>
    intro w cs xss off oi pos hV hE h24 h33 hrd hdrop hds hx hoi hp0 hp hfin
    have hd := hds d (by simp)
    simp only [List.length_cons] at hx hoi hp
    have hdrop' : bs.drop off = (pushT d).enc ++ (code (ds.map pushT) ++ [81]) := by
      rw [hdrop]
      simp [code]
    have hlen : off + (pushT d).enc.length < n := by
      have h1 := congrArg List.length hdrop'
      have h2 := hrd.len.1
      simp at h1
      omega
    obtain ⟨nm, dA, dc, i⟩ := stepIn_tok (t := pushT d) (rest := code (ds.map pushT) ++ [81]) (xs1 := xss ++ [d]) (G := True) (F := False) (k' := k) hV hE (by omega) (by omega) (by omega) (by simp; omega) hrd
      hdrop' (tokS_pushT d (by omega)) hp0 (by omega)
      (fun dA dc w1 cs1 hr hv1 he1 hk1 _ hob _ => push_gen d hd mn hv1 he1 ((hk1 24 (by omega)).trans h24) (by omega) hob rfl hr)
    refine goes_mid i hlen h33 ?_ (fun _ _ _ _ hF _ _ => hF.elim)
    intro w1 cs1 _ hv1 he1 hk1 hf1
    refine ih hv1 he1 ((hk1 24 (by omega)).trans h24) ((hk1 33 (by omega)).trans h33) (hf1.rd hV.blk hrd) ?_ (fun d' h' => hds d' (by simp [h'])) (by simp; omega) (by omega) (by omega) (by omega) ?_
    · rw [← List.drop_drop, hdrop', List.drop_left]
    · intro w' cs' hv h12 hk hf
      exact hfin w' cs' (by simpa using hv) h12 (hk1.trans hk) (hf1.trans hf)

/-- What a run of pushes leaves. -/
def PushR (g : Nat) (B : Bd) (w : World) (cs : Array Value) (xss : List (List UInt8)) (r : Value) (w' : World) : Prop :=
  r = .nilIface ∧ Fs g B w w' ∧ ∃ cs', Vm w' g B cs' xss ∧ ∀ i, i < 12 ∨ i = 22 ∨ (24 ≤ i ∧ i ≠ 28) → cs'[i]? = cs[i]?

/-- Execute, of pushes over whatever lies there. -/
theorem execute_push (mn : Bool) (bs : List UInt8) {w : World} {g : Nat} {B : Bd} {sb pb po n c : Nat} {cs : Array Value} {xss : List (List UInt8)} (fl : Int) (hfl : bits .and .u32 fl 32 = 0) (ds : List (List UInt8)) (hn : n ≤ 10000)
    (hV : Vm w g B cs xss) (hE : En cs sb 1 0 0 (.slice (some ⟨pb, po, none⟩) n c) 0 (-1)) (h0 : cs[0]? = some (.int .u32 fl)) (h24 : cs[24]? = some (.bool mn)) (h33 : cs[33]? = some .nilFunc)
    (hrd : Rd 0 w (.slice (some ⟨pb, po, none⟩) n c) bs) (hbs : bs = code (ds.map pushT) ++ [81]) (hds : ∀ d ∈ ds, d.length ≤ 520) (hx : xss.length + ds.length < 1000) :
    Calls Tryz.prog 17 #[.pointer (some ⟨g, 0, none⟩)] w fun e w' => e = .returned .nilIface ∧ Fs g B w w' ∧ ∃ cs', Vm w' g B cs' (xss ++ ds) ∧ ∀ i, i < 12 ∨ i = 22 ∨ (24 ≤ i ∧ i ≠ 28) → cs'[i]? = cs[i]? := by
  have hgo : Goes g (PushR g B w cs (xss ++ ds)) (ds.length + 1) w := by
    refine pushes_goes mn bs hn ds hV hE h24 h33 hrd (by rw [hbs]; rfl) hds hx (by omega) (by omega) (by omega) ?_
    intro w' cs' hv h12 hk hf
    have e11 := (hk 11 (by omega)).trans hE.c11
    refine (check_top w' g B sb fl cs' (xss ++ ds) hv (by simp; omega) ((hk 0 (by omega)).trans h0) hfl ((hk 30 (by omega)).trans hE.c30) ((hk 32 (by omega)).trans hE.c32) e11 h12).mono ?_
    rintro e w2 ⟨rfl, cs2, hv2, hk2, hf2⟩
    exact ⟨_, rfl, .inl rfl, rfl, hf.trans hf2, cs2, hv2, fun i hi => (hk2 i (by omega)).trans (hk i hi)⟩
  refine (execute_goes w g (ds.length + 1) _ hgo hV.blk.lt ((hV.blk.cell 6).trans hE.c6) ((hV.blk.cell 33).trans h33)).mono ?_
  rintro e w' ⟨r, rfl, -, rfl, hf, cs', hv, hk⟩
  exact ⟨rfl, hf, cs', hv, hk⟩
end Go.Proofs.YtafpgikhcjildaaGreatDoor
