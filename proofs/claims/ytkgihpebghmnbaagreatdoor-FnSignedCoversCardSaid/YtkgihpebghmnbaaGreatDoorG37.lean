/- The number -1: its bytes, pushed. The check that a push is the shortest: it lets the shortest. Pushes of some elements, and a true one behind them: the machine run from the first to the end. The last check over any truth; the turn from the first script to the second. A new machine that asks for the shortest pushes, where the first script is empty. -/
import Derived.Test.YtkgihpebghmnbaaGreatDoorG06
import Derived.Test.YtkgihpebghmnbaaGreatDoorExec
import Derived.Test.YtkgihpebghmnbaaGreatDoorG15
import Derived.Test.YtkgihpebghmnbaaGreatDoorTurn
import Derived.Test.YtkgihpebghmnbaaGreatDoorG35
import Derived.Test.YtkgihpebghmnbaaGreatDoorG11
namespace Go.Proofs.YtkgihpebghmnbaaGreatDoor
open Go.RowKit Go.Proofs

set_option maxRecDepth 100000

theorem own_blk {w : World} {base n c : Nat} {e : TypeId} {A : Option Addr} {xs : List Value} (h : w.ownsRow base e 1 (.slice A n c) n xs) (hn : 0 < n) : ∃ g cur, A = some ⟨g, 0, none⟩ ∧ Blk w g e cur ∧ base ≤ g ∧ n ≤ c ∧ n ≤ cur.size ∧ ∀ (j : Nat) (u : Value), xs[j]? = some u → cur[j]? = some u := by
  have hl := h.1
  rcases h.2 with ⟨he, h0⟩ | ⟨g, cap, cur, he, hb, hh, hnc, hm, hs, ht⟩
  · injection he with e1 e2 e3
    omega
  · injection he with e1 e2 e3
    subst e1; subst e3
    refine ⟨g, cur, rfl, hh, hb, hnc, by omega, fun j u hu => ?_⟩
    rw [← ht, List.getElem?_take] at hu
    split at hu
    · simpa using hu
    · cases hu

/-- Bytes of -1. -/
theorem bytes_neg (w : World) :
    Calls Tryz.prog 227 #[.int .i64 (-1)] w fun e w' => ∃ A c, e = .returned (.slice A 1 c) ∧ Rd 0 w' (.slice A 1 c) [129] ∧ Below w.heap.size w w' := by
  obtain ⟨i0, hi, hz0, hz1, hz2⟩ := info_parts info_u8
  have hmk := make09
  have hone : Hid (∀ u ∈ [Value.int .u8 1], u.oneCell' = true) := by intro u hu; simp at hu; subst hu; rfl
  have hown := World.ownsRow_made (base := w.heap.size) (e := 5) (size := 1) w #[.int .u8 0, .int .u8 0, .int .u8 0, .int .u8 0, .int .u8 0, .int .u8 0, .int .u8 0, .int .u8 0, .int .u8 0] 9 (Nat.le_refl _) (by simp [maxLen]) rfl
  have hO := Lib.hid (hown.alloc (.cells #[.int .u8 1] 5))
  clear hown
  have hb : Hid (w.heap.size ≤ ((w.alloc (.cells #[.int .u8 0, .int .u8 0, .int .u8 0, .int .u8 0, .int .u8 0, .int .u8 0, .int .u8 0, .int .u8 0, .int .u8 0] 5)).alloc (.cells #[.int .u8 1] 5)).heap.size) := by show _ ≤ _; simp; omega
  have hand : bits BinOp.and IntKind.i64 1 255 = 1 := by decide
  go_enter Tryz.func227, Tryz.ntmps227
  go_wp2
  refine wp_loop_rounds 2 ?_
  rw [rounds_succ]
  go_wp2_with (at_builtin; refine Stop.mk ?_)
  refine Stop.go ?_
  refine wpList_append_cells _ rfl (.tmp 16) (.tmp 20) 30 rfl w.heap.size 5 i0 _ 1 Tryz.underlying30 hi hz0 hz1 hz2 rfl _ 0 [] rfl hO.out (some ⟨w.heap.size + 1, 0, none⟩) 1 1 [.int .u8 1] rfl ?_ hone.out (by omega) (by omega) hb.out ?_
  · have := Cells.one (w.alloc (.cells #[.int .u8 0, .int .u8 0, .int .u8 0, .int .u8 0, .int .u8 0, .int .u8 0, .int .u8 0, .int .u8 0, .int .u8 0] 5)) (.int .u8 1) 5
    simpa using this
  intro v' w1 hown' hgrow hat
  simp only [Nat.zero_add, List.nil_append] at hown'
  obtain ⟨A', c', rfl⟩ := own_form hown'
  have hbel : Below w.heap.size w w1 := (((Below.refl _ _).alloc (Nat.le_refl _) _).alloc (by simp) _).grown hgrow (by simp; omega) (fun k hk => by injection hk with hk; exact Nat.le_of_eq hk)
  obtain ⟨g, cur, rfl, hblk, hbg, hnc, hcs, hcur⟩ := own_blk hown' (by omega)
  have hx : w1.cell? ⟨g, 0, none⟩ = some (.int .u8 1) := (hblk.cell 0).trans (hcur 0 _ rfl)
  have hf : w1.frozen? ⟨g, 0, none⟩ = false := hblk.frozen 0
  have HB := Lib.hid hbel
  have HK := Lib.hid hblk
  have HC := Lib.hid hcs
  clear hbel hown' hgrow hat hblk hcur
  go_wp2
  rw [rounds_succ]
  have hand8 : bits BinOp.and IntKind.u8 1 128 = 0 := by decide
  have hor : bits BinOp.or IntKind.u8 1 128 = 129 := by decide
  go_wp2
  go_ret
  refine ⟨_, _, rfl, ⟨some ⟨g, 0, none⟩, c', rfl, hnc, fun _ => ⟨g, 0, _, _, _, rfl, HK.out.set_ 0 _, .inr (by decide), fun j u hu => ?_⟩⟩, HB.out.setCell (p := ⟨g, 0, none⟩) hbg _⟩
  have hcs := HC.out
  match j, hu with
  | 0, hu =>
    simp at hu
    subst hu
    rw [Array.getElem?_setIfInBounds, if_pos rfl, if_pos (by omega)]
    rfl

theorem pushNeg_vm (w : World) (g : Nat) (B : Bd) (cs : Array Value) (xss : List (List UInt8)) (h : Vm w g B cs xss) (hn : xss.length ≤ 100000) :
    Calls Tryz.prog 189 #[.pointer (some ⟨g, 23, none⟩), .int .i64 (-1)] w fun e w' => e = .returned (.tuple #[]) ∧
      ∃ cs', Vm w' g B cs' (xss ++ [[129]]) ∧ K23 cs cs' ∧ Fs g B w w' := by
  have H := Lib.hid (bytes_neg w)
  have HV := Lib.hid h
  clear h
  go_enter Tryz.func189, Tryz.ntmps189
  go_wp2_with fail
  refine H.out.mono ?_
  rintro e w1 ⟨A, c, rfl, hrd, hb⟩
  have H2 := Lib.hid (push_vm w1 g B cs xss _ _ (HV.out.below hb) hrd hn)
  have hfb : Fs g B w w1 := Fs.of_below hb
  have HF := Lib.hid hfb
  clear hb hrd hfb
  go_wp2_with fail
  refine H2.out.mono ?_
  rintro e w' ⟨rfl, cs', k1, k2, k3⟩
  have k1 := Lib.hid k1
  have k2 := Lib.hid k2
  have k3 := Lib.hid k3
  go_wp2
  go_end0
  exact ⟨rfl, cs', k1.out, k2.out, HF.out.trans k3.out⟩

theorem neg_vm (w : World) (g : Nat) (B : Bd) (cs : Array Value) (xss : List (List UInt8)) (op data : Value) (h : Vm w g B cs xss) (hn : xss.length ≤ 100000) :
    Calls Tryz.prog 108 #[op, data, .pointer (some ⟨g, 0, none⟩)] w (Leaves w g B cs (xss ++ [[129]])) := by
  have H := Lib.hid (pushNeg_vm w g B cs xss h hn)
  have hbl := h.blk.lt
  clear h
  go_enter Tryz.func108, Tryz.ntmps108
  go_wp2_with fail
  refine H.out.mono ?_
  rintro e w' ⟨rfl, h⟩
  have h := Lib.hid h
  go_wp2
  go_ret
  exact ⟨rfl, h.out⟩
end Go.Proofs.YtkgihpebghmnbaaGreatDoor

namespace Go.Proofs.YtkgihpebghmnbaaGreatDoor
open Go.RowKit Go.Proofs

set_option maxRecDepth 100000

def MinLets (w : World) (ob n c : Nat) (A : Option Addr) : Prop := Calls Tryz.prog 87 #[.pointer (some ⟨ob, 0, none⟩), .slice A n c] w fun e w' => e = .returned .nilIface ∧ w = w'

theorem min0 (w : World) (ob c : Nat) (A : Option Addr) (h : w.cell? ⟨ob, 0, none⟩ = some (.int .u8 0)) : MinLets w ob 0 c A := by
  unfold MinLets
  go_enter Tryz.func87, Tryz.ntmps87
  go_wp2
  go_ret
  exact ⟨rfl, rfl⟩

theorem min1 (w : World) (ob c b o : Nat) (x : Int) (h : w.cell? ⟨ob, 0, none⟩ = some (.int .u8 1)) (hx : w.cell? ⟨b, o, none⟩ = some (.int .u8 x)) (h0 : x = 0 ∨ (17 ≤ x ∧ x ≠ 129)) : MinLets w ob 1 c (some ⟨b, o, none⟩) := by
  unfold MinLets
  rcases h0 with rfl | ⟨h1, h2⟩
  · go_enter Tryz.func87, Tryz.ntmps87
    go_wp2
    go_ret
    exact ⟨rfl, rfl⟩
  · have h3 : decide (1 ≤ x) = true := decide_eq_true (by omega)
    have h3' : 1 ≤ x := by omega
    have h4 : decide (x ≤ 16) = false := decide_eq_false (by omega)
    have h4' : ¬ (x ≤ 16) := by omega
    have h5 : (x == 129) = false := by simpa using h2
    go_enter Tryz.func87, Tryz.ntmps87
    go_wp2
    go_ret
    exact ⟨rfl, rfl⟩

theorem minN (w : World) (ob c n : Nat) (A : Option Addr) (v : Int) (h : w.cell? ⟨ob, 0, none⟩ = some (.int .u8 v)) (hn : 2 ≤ n) (hv : (n ≤ 75 ∧ v = n) ∨ (76 ≤ n ∧ n ≤ 255 ∧ v = 76) ∨ (256 ≤ n ∧ n ≤ 65535 ∧ v = 77)) : MinLets w ob n c A := by
  unfold MinLets
  obtain ⟨ni, hni⟩ : ∃ ni : Int, (n : Int) = ni := ⟨_, rfl⟩
  have a0 : (ni == 0) = false := by simp; omega
  have a0' : ¬ (ni = 0) := by omega
  have a1 : (ni == 1) = false := by simp; omega
  have a1' : ¬ (ni = 1) := by omega
  rcases hv with ⟨h1, rfl⟩ | ⟨h1, h2, rfl⟩ | ⟨h1, h2, rfl⟩
  · have b1 : ni ≤ 75 := by omega
    have b2 : 0 ≤ ni := by omega
    rw [hni] at h
    go_enter Tryz.func87, Tryz.ntmps87
    go_wp2
    go_ret
    exact ⟨rfl, rfl⟩
  · have b1 : ¬ (ni ≤ 75) := by omega
    have b2 : ni ≤ 255 := by omega
    go_enter Tryz.func87, Tryz.ntmps87
    go_wp2
    go_ret
    exact ⟨rfl, rfl⟩
  · have b1 : ¬ (ni ≤ 75) := by omega
    have b2 : ¬ (ni ≤ 255) := by omega
    have b3 : ni ≤ 65535 := by omega
    go_enter Tryz.func87, Tryz.ntmps87
    go_wp2
    go_ret
    exact ⟨rfl, rfl⟩
end Go.Proofs.YtkgihpebghmnbaaGreatDoor

namespace Go.Proofs.YtkgihpebghmnbaaGreatDoor
open Go.RowKit Go.Proofs

set_option maxRecDepth 100000

/-- The last check, where a truth lies on top. -/
theorem check_top (w : World) (g : Nat) (B : Bd) (sb : Nat) (fl : Int) (cs : Array Value) (xss : List (List UInt8)) (h : Vm w g B cs (xss ++ [[1]])) (hx : xss.length ≤ 100000) (h0 : cs[0]? = some (.int .u32 fl)) (hfl : bits .and .u32 fl 32 = 0) (h30 : cs[30]? = some (.slice none 0 0)) (h32 : cs[32]? = some (.pointer none))
    (h11 : cs[11]? = some (.slice (some ⟨sb, 0, none⟩) 2 2)) (h12 : cs[12]? = some (.int .i64 2)) :
    Calls Tryz.prog 36 #[.pointer (some ⟨g, 0, none⟩), .bool true] w fun e w' => e = .returned .nilIface ∧ ∃ cs', Vm w' g B cs' xss ∧ K23 cs cs' ∧ Fs g B w w' := by
  have c0 := (h.blk.cell 0).trans h0
  have c11 := (h.blk.cell 11).trans h11
  have c12 := (h.blk.cell 12).trans h12
  have c30 := (h.blk.cell 30).trans h30
  have c32 := (h.blk.cell 32).trans h32
  obtain ⟨A0, cc0, items, h23, -, -⟩ := h.stk
  obtain ⟨d, hd⟩ : ∃ d : Nat, (xss ++ [[1]]).length = d := ⟨_, rfl⟩
  rw [hd] at h23
  have hd1 : d = xss.length + 1 := by rw [← hd]; simp
  have hd2 : ¬ ((d : Int) < 1) := by omega
  have c23 := (h.blk.cell 23).trans h23
  have hbl := h.blk.lt
  have HV := Lib.hid h
  clear h h0 h11 h12 h30 h32 h23
  go_enter Tryz.func36, Tryz.ntmps36
  go_wp2_with fail
  go_quiet (fail)
  go_wp2_with fail
  refine (witActive_any (w.drewN nq) g _ c30).mono ?_
  rintro e w1 ⟨rfl, rfl⟩
  go_wp2_with fail
  refine (hasFlag_any (w.drewN nq) g fl 32 0 hfl c0).mono ?_
  rintro e w1 ⟨rfl, rfl⟩
  go_wp2_with fail
  refine (depth_any (w.drewN nq) g 23 d cc0 A0 (by omega) c23).mono ?_
  rintro e w1 ⟨rfl, rfl⟩
  go_wp2_with fail
  refine (popBool_vm (w.drewN nq) g B _ xss (HV.out.drewN nq) hx).mono ?_
  rintro e w1 ⟨rfl, cs', hv, hk, hf⟩
  have hv := Lib.hid hv
  have hk := Lib.hid hk
  have hf := Lib.hid (((Fs.refl g B w).drewN _).trans hf)
  go_wp2
  go_ret
  exact ⟨rfl, cs', hv.out, hk.out, hf.out⟩

theorem tokS_pushT (d : List UInt8) (h : d.length ≤ 65535) : TokS (pushT d) := by
  unfold pushT
  split
  · exact .inl ⟨rfl, .inl rfl, by simp, _, op0⟩
  · split
    · rename_i h1
      obtain ⟨ha, hb, hc⟩ := h1
      exact .inl ⟨rfl, .inr (show 78 < 80 + (d.getD 0 0).toNat by omega), (show 80 + (d.getD 0 0).toNat ≤ 255 by omega), op_n (80 + (d.getD 0 0).toNat) (by omega) (by omega)⟩
    · split
      · exact .inl ⟨rfl, .inr (show 78 < 79 by omega), (show 79 ≤ 255 by omega), _, op79⟩
      · split
        · exact .inr (.inl ⟨by simp only; omega, by simp only; omega, rfl⟩)
        · split
          · exact .inr (.inr (.inl ⟨rfl, by simp only; omega, by simp only; omega⟩))
          · exact .inr (.inr (.inr ⟨rfl, by simp only; omega, by simp only; omega⟩))

section
variable {w w1 w' : World} {g : Nat} {B : Bd} {k : Nat} {cs cs1 : Array Value} {xss : List (List UInt8)}

theorem min_ok {ob v n c : Nat} {A : Option Addr} (mn : Bool) (h : w.cell? ⟨g, 24, none⟩ = some (.bool mn)) (hm : 78 < v ∨ (v ≤ 78 ∧ MinLets w ob n c A)) : MinOk w g ob v n c A := by
  cases mn
  · exact .inl h
  · exact .inr ⟨h, hm⟩

/-- The shortest push of bytes, by whatever rules. -/
theorem push_gen {sb si oi off ob n c : Nat} {A : Option Addr} {sl : Value} {pos : Int} (d : List UInt8) (hd : d.length ≤ 520) (mn : Bool) (hv : Vm w1 g B cs1 xss) (he : En cs1 sb si k oi sl off pos) (h24 : cs1[24]? = some (.bool mn)) (hx : xss.length ≤ 100000)
    (hob : w1.cell? ⟨ob, 0, none⟩ = some (.int .u8 (pushT d).op)) (hn : n = (pushT d).data.length) (hrd : Rd 0 w1 (.slice A n c) (pushT d).data) :
    Calls Tryz.prog 56 #[.pointer (some ⟨g, 0, none⟩), .pointer (some ⟨ob, 0, none⟩), .slice A n c] w1 (Ran w1 g B cs1 k (xss ++ [d]) True False) := by
  have c24 := (hv.blk.cell 24).trans h24
  unfold pushT at hob hn hrd
  split at hob
  · rename_i h0
    rw [if_pos h0] at hn hrd
    have : d = [] := List.eq_nil_of_length_eq_zero h0
    subst this
    simp only [List.length_nil] at hn
    subst hn
    exact small_ran hv he (by omega) (by omega) runs0 hob (min_ok mn c24 (.inr ⟨by omega, min0 w1 ob c A hob⟩)) (false_vm w1 g B cs1 xss _ _ hv hx)
  · rename_i h0
    rw [if_neg h0] at hn hrd
    split at hob
    · rename_i h1
      rw [if_pos h1] at hn hrd
      obtain ⟨ha, hb, hc⟩ := h1
      have hr := runs_n (80 + (d.getD 0 0).toNat) (by omega) (by omega)
      have hd1 : d = [UInt8.ofNat (80 + (d.getD 0 0).toNat - 80)] := by
        rw [show 80 + (d.getD 0 0).toNat - 80 = (d.getD 0 0).toNat from by omega]
        conv => lhs; rw [one_byte ha]
        simp
      have hE := opcodeN_vm w1 g B ob cs1 xss (.slice A n c) (80 + (d.getD 0 0).toNat) (by omega) (by omega) hob hv hx
      rw [← hd1] at hE
      exact small_ran hv he (by omega) (by simp at hn; omega) hr hob (min_ok mn c24 (.inl (by omega))) hE
    · rename_i h1
      rw [if_neg h1] at hn hrd
      split at hob
      · rename_i h2
        rw [if_pos h2] at hn hrd
        obtain ⟨ha, hb⟩ := h2
        have hd1 : d = [129] := by
          have h3 := one_byte ha
          have h4 : d.getD 0 0 = 129 := by
            apply UInt8.toNat_inj.1
            rw [hb]
            rfl
          rw [h4] at h3
          exact h3
        have hE := neg_vm w1 g B cs1 xss (.pointer (some ⟨ob, 0, none⟩)) (.slice A n c) hv hx
        rw [← hd1] at hE
        exact small_ran hv he (by omega) (by simp at hn; omega) runs79 hob (min_ok mn c24 (.inl (by omega))) hE
      · rename_i h2
        rw [if_neg h2] at hn hrd
        split at hob
        · rename_i h3
          rw [if_pos h3] at hn hrd
          simp only at hn hrd hob
          subst hn
          refine small_ran hv he (by omega) (by omega) (runs_push d.length (by omega) (by omega)) hob (min_ok mn c24 (.inr ⟨by omega, ?_⟩)) (pushData_vm w1 g B cs1 xss _ _ d hv hrd hx)
          by_cases h4 : d.length = 1
          · obtain ⟨b, o, rfl, hc⟩ := hrd.cell (j := 0) (by omega)
            rw [Nat.add_zero] at hc
            rw [h4] at hob ⊢
            exact min1 w1 ob c b o _ hob hc (by
              have h5 : ¬ (1 ≤ (d.getD 0 0).toNat ∧ (d.getD 0 0).toNat ≤ 16) := fun h => h1 ⟨h4, h⟩
              have h6 : ¬ ((d.getD 0 0).toNat = 129) := fun h => h2 ⟨h4, h⟩
              omega)
          · exact minN w1 ob c d.length A _ hob (by omega) (.inl ⟨by omega, rfl⟩)
        · rename_i h3
          rw [if_neg h3] at hn hrd
          split at hob
          · rename_i h4
            rw [if_pos h4] at hn hrd
            simp only at hn hrd hob
            subst hn
            exact small_ran hv he (by omega) (by omega) (runs_push 76 (by omega) (by omega)) hob (min_ok mn c24 (.inr ⟨by omega, minN w1 ob c d.length A _ hob (by omega) (.inr (.inl ⟨by omega, by omega, rfl⟩))⟩)) (pushData_vm w1 g B cs1 xss _ _ d hv hrd hx)
          · rename_i h4
            rw [if_neg h4] at hn hrd
            simp only at hn hrd hob
            subst hn
            exact small_ran hv he (by omega) (by omega) (runs_push 77 (by omega) (by omega)) hob (min_ok mn c24 (.inr ⟨by omega, minN w1 ob c d.length A _ hob (by omega) (.inr (.inr ⟨by omega, by omega, rfl⟩))⟩)) (pushData_vm w1 g B cs1 xss _ _ d hv hrd hx)
end

/-- Some pushes, and a true element behind them: they run to the script's end. -/
theorem pushes_goes {R : Value → World → Prop} (mn : Bool) (bs : List UInt8) {g : Nat} {B : Bd} {sb pb po n c k : Nat} (hn : n ≤ 10000) (ds : List (List UInt8)) : ∀ {w : World} {cs : Array Value} {xss : List (List UInt8)} {off oi : Nat} {pos : Int},
    Vm w g B cs xss → En cs sb 1 k oi (.slice (some ⟨pb, po, none⟩) n c) off pos → cs[24]? = some (.bool mn) → cs[33]? = some .nilFunc → Rd 0 w (.slice (some ⟨pb, po, none⟩) n c) bs → bs.drop off = code (ds.map pushT) ++ [81] → (∀ d ∈ ds, d.length ≤ 520) →
    xss.length + ds.length < 1000 → oi + ds.length ≤ 100000 → -1 ≤ pos → pos + ds.length ≤ 100000 →
    (∀ w' cs', Vm w' g B cs' (xss ++ ds ++ [[1]]) → cs'[12]? = some (.int .i64 2) → Kp cs cs' → Fs g B w w' → Ends g R w') → Goes g R (ds.length + 1) w := by
  induction ds with
  | nil =>
    intro w cs xss off oi pos hV hE h24 h33 hrd hdrop hds hx hoi hp0 hp hfin
    have hlen : n = off + 1 := by
      have h1 := congrArg List.length hdrop
      have h2 := hrd.len.1
      simp [code] at h1
      omega
    obtain ⟨nm, dA, dc, i⟩ := stepIn_tok (t := ⟨81, []⟩) (rest := []) (xs1 := xss ++ [[1]]) (G := True) (F := False) (k' := k) hV hE (by omega) (by omega) (by simp at hoi; omega) (by simp at hx ⊢; omega) hrd
      (by rw [hdrop]; rfl) (.inl ⟨rfl, .inr (show 78 < 81 by omega), (show 81 ≤ 255 by omega), _, op81⟩) hp0 (by simp at hp; omega)
      (fun dA dc w1 cs1 hr hv1 he1 hk1 _ hob _ => small_ran hv1 he1 (by omega) (by simp) runs81 hob (min_ok mn ((hv1.blk.cell 24).trans ((hk1 24 (by omega)).trans h24)) (.inl (by omega))) (opcodeN_vm w1 g B _ cs1 xss _ 81 (by omega) (by omega) hob hv1 (by simp at hx; omega)))
    refine goes_end i (by have := len81; omega) h33 ?_ (fun _ _ _ _ hF _ _ => hF.elim)
    intro w1 cs1 _ hv1 h12 hk1 hf1
    exact hfin w1 cs1 (by simpa using hv1) h12 hk1 hf1
  | cons d ds ih =>
    intro w cs xss off oi pos hV hE h24 h33 hrd hdrop hds hx hoi hp0 hp hfin
    have hd := hds d (by simp)
    simp only [List.length_cons] at hx hoi hp
    have hdrop' : bs.drop off = (pushT d).enc ++ (code (ds.map pushT) ++ [81]) := by
      rw [hdrop]
      simp [code]
    have hlen : off + (pushT d).enc.length < n := by
      have h1 := congrArg List.length hdrop'
      have h2 := hrd.len.1
      simp at h1
      omega
    obtain ⟨nm, dA, dc, i⟩ := stepIn_tok (t := pushT d) (rest := code (ds.map pushT) ++ [81]) (xs1 := xss ++ [d]) (G := True) (F := False) (k' := k) hV hE (by omega) (by omega) (by omega) (by simp; omega) hrd
      hdrop' (tokS_pushT d (by omega)) hp0 (by omega)
      (fun dA dc w1 cs1 hr hv1 he1 hk1 _ hob _ => push_gen d hd mn hv1 he1 ((hk1 24 (by omega)).trans h24) (by omega) hob rfl hr)
    refine goes_mid i hlen h33 ?_ (fun _ _ _ _ hF _ _ => hF.elim)
    intro w1 cs1 _ hv1 he1 hk1 hf1
    refine ih hv1 he1 ((hk1 24 (by omega)).trans h24) ((hk1 33 (by omega)).trans h33) (hf1.rd hV.blk hrd) ?_ (fun d' h' => hds d' (by simp [h'])) (by simp; omega) (by omega) (by omega) (by omega) ?_
    · rw [← List.drop_drop, hdrop', List.drop_left]
    · intro w' cs' hv h12 hk hf
      exact hfin w' cs' (by simpa using hv) h12 (hk1.trans hk) (hf1.trans hf)

/-- What a run of pushes leaves. -/
def PushR (g : Nat) (B : Bd) (w : World) (cs : Array Value) (xss : List (List UInt8)) (r : Value) (w' : World) : Prop :=
  r = .nilIface ∧ Fs g B w w' ∧ ∃ cs', Vm w' g B cs' xss ∧ ∀ i, i < 12 ∨ i = 22 ∨ (24 ≤ i ∧ i ≠ 28) → cs'[i]? = cs[i]?

/-- Execute, of pushes over whatever lies there. -/
theorem execute_push (mn : Bool) (bs : List UInt8) {w : World} {g : Nat} {B : Bd} {sb pb po n c : Nat} {cs : Array Value} {xss : List (List UInt8)} (fl : Int) (hfl : bits .and .u32 fl 32 = 0) (ds : List (List UInt8)) (hn : n ≤ 10000)
    (hV : Vm w g B cs xss) (hE : En cs sb 1 0 0 (.slice (some ⟨pb, po, none⟩) n c) 0 (-1)) (h0 : cs[0]? = some (.int .u32 fl)) (h24 : cs[24]? = some (.bool mn)) (h33 : cs[33]? = some .nilFunc)
    (hrd : Rd 0 w (.slice (some ⟨pb, po, none⟩) n c) bs) (hbs : bs = code (ds.map pushT) ++ [81]) (hds : ∀ d ∈ ds, d.length ≤ 520) (hx : xss.length + ds.length < 1000) :
    Calls Tryz.prog 23 #[.pointer (some ⟨g, 0, none⟩)] w fun e w' => e = .returned .nilIface ∧ Fs g B w w' ∧ ∃ cs', Vm w' g B cs' (xss ++ ds) ∧ ∀ i, i < 12 ∨ i = 22 ∨ (24 ≤ i ∧ i ≠ 28) → cs'[i]? = cs[i]? := by
  have hgo : Goes g (PushR g B w cs (xss ++ ds)) (ds.length + 1) w := by
    refine pushes_goes mn bs hn ds hV hE h24 h33 hrd (by rw [hbs]; rfl) hds hx (by omega) (by omega) (by omega) ?_
    intro w' cs' hv h12 hk hf
    have e11 := (hk 11 (by omega)).trans hE.c11
    refine (check_top w' g B sb fl cs' (xss ++ ds) hv (by simp; omega) ((hk 0 (by omega)).trans h0) hfl ((hk 30 (by omega)).trans hE.c30) ((hk 32 (by omega)).trans hE.c32) e11 h12).mono ?_
    rintro e w2 ⟨rfl, cs2, hv2, hk2, hf2⟩
    exact ⟨_, rfl, .inl rfl, rfl, hf.trans hf2, cs2, hv2, fun i hi => (hk2 i (by omega)).trans (hk i hi)⟩
  refine (execute_goes w g (ds.length + 1) _ hgo hV.blk.lt ((hV.blk.cell 6).trans hE.c6) ((hV.blk.cell 33).trans h33)).mono ?_
  rintro e w' ⟨r, rfl, -, rfl, hf, cs', hv, hk⟩
  exact ⟨rfl, hf, cs', hv, hk⟩
end Go.Proofs.YtkgihpebghmnbaaGreatDoor

namespace Go.Proofs.YtkgihpebghmnbaaGreatDoor
open Go.RowKit Go.Proofs

set_option maxRecDepth 100000

theorem popBoolv_vm (w : World) (g : Nat) (B : Bd) (cs : Array Value) (xss : List (List UInt8)) (v : Bool) (h : Vm w g B cs (xss ++ [boolB v])) (hn : xss.length ≤ 100000) :
    Calls Tryz.prog 64 #[.pointer (some ⟨g, 23, none⟩)] w fun e w' => e = .returned (.tuple #[.bool v, .nilIface]) ∧
      ∃ cs', Vm w' g B cs' xss ∧ K23 cs cs' ∧ Fs g B w w' := by
  cases v
  case true => exact popBool_vm w g B cs xss h hn
  case false =>
    obtain ⟨A, c, items, h1, h2, h3⟩ := h.stk
    have hl : items.length = xss.length + 1 := by rw [h3.1]; simp
    obtain ⟨its, x, rfl⟩ : ∃ its x, items = its ++ [x] := ⟨items.dropLast, items.getLast (by intro e; simp [e] at hl), (List.dropLast_concat_getLast _).symm⟩
    obtain ⟨h4, h5⟩ := h3.init
    obtain ⟨Ax, cx, rfl, hcx⟩ := h5.slice
    have e : (xss ++ [boolB false]).length = xss.length + 1 := by simp
    rw [e] at h1 h2
    refine (popBool_any w g 23 _ B.n xss.length cs A Ax c 0 cx its false h.blk h1 h2 (by decide) hn ?_).mono ?_
    · intro w' hf
      exact .inl ⟨rfl, rfl⟩
    rintro e w' ⟨rfl, hb, ho, hf⟩
    have hfs : Fs g B w w' := Fs.of_m1 hf
    exact ⟨rfl, _, ⟨hb, h.base.le hf.size, free_here h1 h.free, A, c, its, get_here h1, ho, hfs.rdl h.blk h4⟩, K23.set _ _, hfs⟩

/-- The last check, where a truth or none lies on top. -/
theorem check_v (w : World) (g : Nat) (B : Bd) (sb : Nat) (fl : Int) (cs : Array Value) (xss : List (List UInt8)) (v : Bool) (h : Vm w g B cs (xss ++ [boolB v])) (hx : xss.length ≤ 100000) (h0 : cs[0]? = some (.int .u32 fl)) (hfl : bits .and .u32 fl 32 = 0) (h30 : cs[30]? = some (.slice none 0 0)) (h32 : cs[32]? = some (.pointer none))
    (h11 : cs[11]? = some (.slice (some ⟨sb, 0, none⟩) 2 2)) (h12 : cs[12]? = some (.int .i64 2)) :
    Calls Tryz.prog 36 #[.pointer (some ⟨g, 0, none⟩), .bool true] w fun e w' => ∃ r, e = .returned r ∧ ((r = .nilIface ∧ v = true) ∨ (Fault r ∧ v = false)) ∧ ∃ cs', Vm w' g B cs' xss ∧ K23 cs cs' ∧ Fs g B w w' := by
  cases v
  case true =>
    refine (check_top w g B sb fl cs xss h hx h0 hfl h30 h32 h11 h12).mono ?_
    rintro e w' ⟨rfl, hr⟩
    exact ⟨_, rfl, .inl ⟨rfl, rfl⟩, hr⟩
  case false =>
    have c0 := (h.blk.cell 0).trans h0
    have c11 := (h.blk.cell 11).trans h11
    have c12 := (h.blk.cell 12).trans h12
    have c30 := (h.blk.cell 30).trans h30
    have c32 := (h.blk.cell 32).trans h32
    obtain ⟨A0, cc0, items, h23, -, -⟩ := h.stk
    obtain ⟨d, hd⟩ : ∃ d : Nat, (xss ++ [boolB false]).length = d := ⟨_, rfl⟩
    rw [hd] at h23
    have hd1 : d = xss.length + 1 := by rw [← hd]; simp
    have hd2 : ¬ ((d : Int) < 1) := by omega
    have c23 := (h.blk.cell 23).trans h23
    have hbl := h.blk.lt
    have HV := Lib.hid h
    clear h h0 h11 h12 h30 h32 h23
    go_enter Tryz.func36, Tryz.ntmps36
    go_wp2_with fail
    go_quiet (fail)
    go_wp2_with fail
    refine (witActive_any (w.drewN nq) g _ c30).mono ?_
    rintro e w1 ⟨rfl, rfl⟩
    go_wp2_with fail
    refine (hasFlag_any (w.drewN nq) g fl 32 0 hfl c0).mono ?_
    rintro e w1 ⟨rfl, rfl⟩
    go_wp2_with fail
    refine (depth_any (w.drewN nq) g 23 d cc0 A0 (by omega) c23).mono ?_
    rintro e w1 ⟨rfl, rfl⟩
    go_wp2_with fail
    refine (popBoolv_vm (w.drewN nq) g B _ xss false (HV.out.drewN nq) hx).mono ?_
    rintro e w1 ⟨rfl, cs', hv, hk, hf⟩
    have hv := Lib.hid hv
    have hk := Lib.hid hk
    have hf := Lib.hid (((Fs.refl g B w).drewN _).trans hf)
    go_wp2_with fail
    refine (scriptError_any _ _ _).mono ?_
    rintro e w2 ⟨rfl, hb2⟩
    have hv2 := Lib.hid (hv.out.below hb2)
    have hf2 := Lib.hid (hf.out.below hb2)
    clear hb2
    go_wp2
    go_ret
    exact ⟨_, rfl, .inr ⟨⟨10, _, rfl, by omega, by omega⟩, (by first | rfl | trivial)⟩, cs', hv2.out, hk.out, hf2.out⟩

section
variable {w w' : World} {g : Nat} {B : Bd} {sb k oi pb po n c off len v k' m : Nat} {cs : Array Value} {xss xs1 : List (List UInt8)} {pos : Int} {nm : ByteArray} {dA : Option Addr} {dn dc : Nat} {G F : Prop} {R : Value → World → Prop}

theorem goes_turn {A1 : Option Addr} {n1 c1 : Nat} (h : StepIn w g B cs xss sb 0 k oi pb po n c off len v k' pos nm dA dn dc xs1 G F) (hoff : off + len = n) (h33 : cs[33]? = some .nilFunc)
    (hsb1 : w.cell? ⟨sb, 1, none⟩ = some (.slice A1 n1 c1)) (hsbB : sb < B.n) (hsbg : sb ≠ g) (hn1 : 0 < n1)
    (hgood : ∀ w' cs', G → Vm w' g B cs' xs1 → En cs' sb 1 0 0 (.slice A1 n1 c1) 0 (-1) → Kp cs cs' → Fs g B w w' → Goes g R m w')
    (hbad : ∀ r w' cs', Fault r → F → Vm w' g B cs' xs1 → Fs g B w w' → R r w') : Goes g R (m + 1) w := by
  refine (step_turn h ⟨hoff, rfl⟩ hsb1 hsbB hsbg hn1).mono ?_
  rintro e w' (⟨rfl, hG, cs', hv', he', hk', hf'⟩ | ⟨r, rfl, hFt, hF, cs', hv', hk', hf'⟩)
  · exact .inr (.inr ⟨rfl, (hv'.blk.cell 33).trans ((hk' 33 (by omega)).trans h33), hv'.blk.lt, hgood _ _ hG hv' he' hk' hf'⟩)
  · exact .inl ⟨r, rfl, hFt, hbad _ _ _ hFt hF hv' hf'⟩
end
end Go.Proofs.YtkgihpebghmnbaaGreatDoor

namespace Go.Proofs.YtkgihpebghmnbaaGreatDoor
open Go.RowKit Go.Proofs

set_option maxRecDepth 100000

/-- The cells of a new machine that asks for the shortest pushes. -/
def cells1m (fl : Int) (amount : Int) (fetch ver txin txout lock : Value) (sb : Nat) (pub : Value) : Array Value :=
  #[.int .u32 fl, ver, txin, txout, lock, .int .i64 0, .int .u16 0, .bool false, .pointer none, .pointer none, fetch, .slice (some ⟨sb, 0, none⟩) 2 2, .int .i64 1, .int .i64 0, .int .i64 0, pub, .int .u16 0, .int .i32 0, .int .i32 (-1), .pointer none, .slice none 0 0, .nilIface, .slice none 0 0, .slice none 0 0, .bool true, .slice none 0 0, .bool true, .slice none 0 0, .int .i64 0, .int .i64 0, .slice none 0 0, .int .i64 amount, .pointer none, .nilFunc]

/-- No flag is set but that on the shortest pushes, or such as no rule of scripts hangs on. -/
structure Flagsm (fl : Int) : Prop where
  f32 : bits .and .u32 fl 32 = 0
  f1024 : bits .and .u32 fl 1024 = 0
  f1 : bits .and .u32 fl 1 = 0
  f256 : bits .and .u32 fl 256 = 256
  f4096 : bits .and .u32 fl 4096 = 0

theorem flags256 : Flagsm 256 := ⟨by decide, by decide, by decide, by decide, by decide⟩

theorem cells_fillm (fl amount : Int) (fty : TypeId) (fx : Value) (A oA : Option Addr) (n c sb rn rc on oc : Nat) (ver lock : Int) :
    (((((((((((((((((cells0 fl amount (.iface fty fx)).setIfInBounds 11 (.slice (some ⟨sb, 0, none⟩) 2 2)).setIfInBounds 12 (.int .i64 1)).setIfInBounds 24 (.bool true)).setIfInBounds 26 (.bool true)).setIfInBounds 15 (.slice A n c)).setIfInBounds 16 (.int .u16 0)).setIfInBounds 17 (.int .i32 0)).setIfInBounds 18 (.int .i32 (-1))).setIfInBounds 19 (.pointer none)).setIfInBounds 20 (.slice none 0 0)).setIfInBounds 21 .nilIface).setIfInBounds 1 (.int .i32 ver)).setIfInBounds 2 (.slice (some ⟨rn, 0, none⟩) 1 rc)).setIfInBounds 3 (.slice oA on oc)).setIfInBounds 4 (.int .u32 lock)).setIfInBounds 5 (.int .i64 0)) = cells1m fl amount (.iface fty fx) (.int .i32 ver) (.slice (some ⟨rn, 0, none⟩) 1 rc) (.slice oA on oc) (.int .u32 lock) sb (.slice A n c) := by kernel_rfl

set_option maxHeartbeats 2000000 in
theorem newEngine_min (w : World) (tb ib _sb0 n c cs1 rn rc : Nat) (fl amount : Int) (fty : TypeId) (fx : Value) (A As : Option Addr) (ts : List Tok) (ver _txout lock : Int) (txo : Value) (_icells : Array Value)
    (hfl : Flagsm fl) (hpub : Rd 0 w (.slice A n c) (code ts)) (hts : ∀ t ∈ ts, TokS t) (hn0 : 0 < n) (hn : n ≤ 10000)
    (htx : Blk w tb 79 #[.int .i32 ver, .slice (some ⟨rn, 0, none⟩) 1 rc, txo, .int .u32 lock])
    (htxo : ∃ A n c, txo = .slice A n c)
    (hrow : w.cell? ⟨rn, 0, none⟩ = some (.pointer (some ⟨ib, 0, none⟩))) (hsig : w.cell? ⟨ib, 33, none⟩ = some (.slice As 0 cs1)) :
    Calls Tryz.prog 32 #[.slice A n c, .pointer (some ⟨tb, 0, none⟩), .int .i64 0, .int .u32 fl, .pointer none, .pointer none, .int .i64 amount, .iface fty fx] w fun e w' =>
      ∃ g sb, e = .returned (.tuple #[.pointer (some ⟨g, 0, none⟩), .nilIface]) ∧ w.heap.size ≤ g ∧ w.heap.size ≤ sb ∧ g < sb ∧
        Blk w' g 111 (cells1m fl amount (.iface fty fx) (.int .i32 ver) (.slice (some ⟨rn, 0, none⟩) 1 rc) txo (.int .u32 lock) sb (.slice A n c)) ∧
        Blk w' sb 30 #[.slice As 0 cs1, .slice A n c] ∧ Below w.heap.size w w' := by
  obtain ⟨oA, on, oc, rfl⟩ := htxo
  have t1 := htx.cell 1
  have htbl := htx.lt
  have hibl := World.block_lt_of_cell? w _ hsig
  have hn1 : ¬ ((n : Int) = 0) := by omega
  have hn2 : ((n : Int) == 0) = false := by simp; omega
  have hn3 : (n : Int) ≤ 10000 := by omega
  have HT := Lib.hid hts
  have HP := Lib.hid hpub
  have HTX := Lib.hid htx
  have HF := Lib.hid hfl
  clear hts hpub htx hfl
  go_enter Tryz.func32, Tryz.ntmps32
  go_wp2_with (refine wpList_build 111 _ rfl rfl (.agg (cells0 fl amount (.iface fty fx))) (by kernel_rfl) ?_; refine Stop.mk ?_)
  refine Stop.go ?_
  go_wp2_with (refine wpList_alloc 111 rfl rfl (cells0 0 0 .nilIface) (by kernel_rfl) ?_; refine Stop.mk ?_)
  refine Stop.go ?_
  refine wpList_store_new (w := w) rfl (.tmp 20) (.tmp 69) 111 rfl rfl _ (cells0 fl amount (.iface fty fx)) rfl rfl info_engine rfl (cells0_one fl amount fty fx) ?_
  have hb1 := Blk.new w 111 (cells0 fl amount (.iface fty fx))
  have hbel1 : Below w.heap.size w (w.alloc (.cells (cells0 fl amount (.iface fty fx)) 111)) := (Below.refl _ _).alloc (Nat.le_refl _) _
  have hsz1 : w.heap.size < (w.alloc (.cells (cells0 fl amount (.iface fty fx)) 111)).heap.size := by simp
  have d0 := hb1.cell 0
  change _ = some (Value.int .u32 fl) at d0
  generalize hgg : w.heap.size = g at hb1 d0 ⊢
  have hg0 : w.heap.size ≤ g := Nat.le_of_eq hgg
  generalize w.alloc (.cells (cells0 fl amount (.iface fty fx)) 111) = W1 at *
  have hbl1 := hb1.lt
  have HB1 := Lib.hid hb1
  have HL1 := Lib.hid hbel1
  clear hb1 hbel1
  go_wp2_with fail
  refine (hasFlag_any W1 g fl 32 0 HF.out.f32 d0).mono ?_
  rintro e w' ⟨rfl, rfl⟩
  go_wp2_with fail
  refine (hasFlag_any W1 g fl 1024 0 HF.out.f1024 d0).mono ?_
  rintro e w' ⟨rfl, rfl⟩
  go_wp2_with fail
  refine (hasFlag_any W1 g fl 1 0 HF.out.f1 d0).mono ?_
  rintro e w' ⟨rfl, rfl⟩
  go_wp2_with fail
  have hb2 := HB1.out.alloc (.cells #[.slice As 0 cs1, .slice A n c] 30)
  have hr2 := Blk.new W1 30 #[.slice As 0 cs1, .slice A n c]
  have hl2 := HL1.out.alloc HL1.out.size (.cells #[.slice As 0 cs1, .slice A n c] 30)
  have hsb : w.heap.size ≤ W1.heap.size := HL1.out.size
  have hgs : g < W1.heap.size := HB1.out.lt
  generalize W1.heap.size = sb at *
  generalize W1.alloc (.cells #[.slice As 0 cs1, .slice A n c] 30) = W2 at *
  have q0 := hr2.cell 0
  change _ = some (Value.slice As 0 cs1) at q0
  have HB2 := Lib.hid hb2
  have HR2 := Lib.hid hr2
  have HL2 := Lib.hid hl2
  clear hb2 hr2 hl2 HB1 HL1 d0
  refine wp_loop_rounds 3 ?_
  rw [rounds_succ]
  go_wp2_with fail
  refine (parses W2 0 cs1 As [] (Rd.nil _ _ _ _) (by simp) (by omega)).mono ?_
  rintro e W3 ⟨rfl, hb3⟩
  have HB3 := Lib.hid (HB2.out.below hb3 HB2.out.lt)
  have HR3 := Lib.hid (HR2.out.below hb3 HR2.out.lt)
  have HL3 := Lib.hid (Below.fm HL2.out (Fm.of_below (M := fun _ => False) hb3) HL2.out.size (fun _ _ h => h))
  clear hb3 HB2 HR2 HL2 q0
  have q1 := HR3.out.cell 1
  change _ = some (Value.slice A n c) at q1
  go_wp2_with fail
  rw [rounds_succ]
  go_wp2_with fail
  refine (parses W3 n c A ts (HP.out.below (B := 0) (w' := W3) HL3.out) HT.out (by omega)).mono ?_
  rintro e W4 ⟨rfl, hb4⟩
  have HB4 := Lib.hid (HB3.out.below hb4 HB3.out.lt)
  have HR4 := Lib.hid (HR3.out.below hb4 HR3.out.lt)
  have HL4 := Lib.hid (Below.fm HL3.out (Fm.of_below (M := fun _ => False) hb4) HL3.out.size (fun _ _ h => h))
  clear hb4 HB3 HR3 HL3 q1
  have e11 := HB4.out.cell 11
  change _ = some (Value.slice none 0 0) at e11
  have e12 := HB4.out.cell 12
  change _ = some (Value.int .i64 0) at e12
  have hfz := HB4.out.frozen
  have hbl4 := HB4.out.lt
  go_wp2_with fail
  rw [rounds_succ]
  go_wp2_with fail
  have hb5 := (HB4.out.set_ 11 (.slice (some ⟨sb, 0, none⟩) 2 2)).set_ 12 (.int .i64 1)
  have hr5 := (HR4.out.far (p := ⟨g, 11, none⟩) (Nat.ne_of_gt hgs) (.slice (some ⟨sb, 0, none⟩) 2 2)).far (p := ⟨g, 12, none⟩) (Nat.ne_of_gt hgs) (.int .i64 1)
  have hl5 := (HL4.out.setCell (p := ⟨g, 11, none⟩) hg0 (.slice (some ⟨sb, 0, none⟩) 2 2)).setCell (p := ⟨g, 12, none⟩) hg0 (.int .i64 1)
  clear e11 e12 hfz hbl4 HB4 HR4 HL4
  generalize (W4.setCell ⟨g, 11, none⟩ (.slice (some ⟨sb, 0, none⟩) 2 2)).setCell ⟨g, 12, none⟩ (.int .i64 1) = W5 at *
  have HB5 := Lib.hid hb5
  have HR5 := Lib.hid hr5
  have HL5 := Lib.hid hl5
  clear hb5 hr5 hl5
  have d0 := HB5.out.cell 0
  change _ = some (Value.int .u32 fl) at d0
  have e24 := HB5.out.cell 24
  change _ = some (Value.bool false) at e24
  have e26 := HB5.out.cell 26
  change _ = some (Value.bool false) at e26
  have hfz5 := HB5.out.frozen
  have hbl5' := HB5.out.lt
  refine (hasFlag_any W5 g fl 256 256 HF.out.f256 d0).mono ?_
  rintro e w' ⟨rfl, rfl⟩
  go_wp2_with fail
  have hb5 := (HB5.out.set_ 24 (.bool true)).set_ 26 (.bool true)
  have hr5 := (HR5.out.far (p := ⟨g, 24, none⟩) (Nat.ne_of_gt hgs) (.bool true)).far (p := ⟨g, 26, none⟩) (Nat.ne_of_gt hgs) (.bool true)
  have hl5 := (HL5.out.setCell (p := ⟨g, 24, none⟩) hg0 (.bool true)).setCell (p := ⟨g, 26, none⟩) hg0 (.bool true)
  clear e24 e26 hfz5 hbl5' HB5 HR5 HL5 d0
  generalize (W5.setCell ⟨g, 24, none⟩ (.bool true)).setCell ⟨g, 26, none⟩ (.bool true) = W5m at *
  have HB5 := Lib.hid hb5
  have HR5 := Lib.hid hr5
  have HL5 := Lib.hid hl5
  clear hb5 hr5 hl5
  have d0 := HB5.out.cell 0
  change _ = some (Value.int .u32 fl) at d0
  refine (hasFlag_any W5m g fl 4096 0 HF.out.f4096 d0).mono ?_
  rintro e w' ⟨rfl, rfl⟩
  have q1 := HR5.out.cell 1
  change _ = some (Value.slice A n c) at q1
  have e12 := HB5.out.cell 12
  change _ = some (Value.int .i64 1) at e12
  have hbl5 := HB5.out.lt
  go_wp2_with fail
  refine (mkTok_any W5m A n c).mono ?_
  rintro e W6 ⟨rfl, hb6⟩
  have HB6 := Lib.hid (HB5.out.below hb6 HB5.out.lt)
  have HR6 := Lib.hid (HR5.out.below hb6 HR5.out.lt)
  have HL6 := Lib.hid (Below.fm HL5.out (Fm.of_below (M := fun _ => False) hb6) HL5.out.size (fun _ _ h => h))
  clear hb6 HB5 HR5 HL5 q1 e12 d0 hbl5
  have x1 := HB6.out.cell 1
  change _ = some (Value.int .i32 0) at x1
  have x2 := HB6.out.cell 2
  change _ = some (Value.slice none 0 0) at x2
  have x3 := HB6.out.cell 3
  change _ = some (Value.slice none 0 0) at x3
  have x4 := HB6.out.cell 4
  change _ = some (Value.int .u32 0) at x4
  have x5 := HB6.out.cell 5
  change _ = some (Value.int .i64 0) at x5
  have x15 := HB6.out.cell 15
  change _ = some (Value.slice none 0 0) at x15
  have x16 := HB6.out.cell 16
  change _ = some (Value.int .u16 0) at x16
  have x17 := HB6.out.cell 17
  change _ = some (Value.int .i32 0) at x17
  have x18 := HB6.out.cell 18
  change _ = some (Value.int .i32 0) at x18
  have x19 := HB6.out.cell 19
  change _ = some (Value.pointer none) at x19
  have x20 := HB6.out.cell 20
  change _ = some (Value.slice none 0 0) at x20
  have x21 := HB6.out.cell 21
  change _ = some Value.nilIface at x21
  have hfz := HB6.out.frozen
  have hbl6 := HB6.out.lt
  have T6 := HTX.out.below HL6.out HTX.out.lt
  have y0 := T6.cell 0
  change _ = some (Value.int .i32 ver) at y0
  have y1 := T6.cell 1
  change _ = some (Value.slice (some ⟨rn, 0, none⟩) 1 rc) at y1
  have y2 := T6.cell 2
  change _ = some (Value.slice oA on oc) at y2
  have y3 := T6.cell 3
  change _ = some (Value.int .u32 lock) at y3
  have hne : tb ≠ g := by omega
  have hne2 : g ≠ tb := Ne.symm hne
  clear T6
  go_wp2_with fail
  go_ret2
  refine ⟨g, sb, rfl, hg0, hsb, hgs, ?_, ?_, ?_⟩
  · have h := ((((((((((((HB6.out.set_ 15 (.slice A n c)).set_ 16 (.int .u16 0)).set_ 17 (.int .i32 0)).set_ 18 (.int .i32 (-1))).set_ 19 (.pointer none)).set_ 20 (.slice none 0 0)).set_ 21 .nilIface).set_ 1 (.int .i32 ver)).set_ 2 (.slice (some ⟨rn, 0, none⟩) 1 rc)).set_ 3 (.slice oA on oc)).set_ 4 (.int .u32 lock)).set_ 5 (.int .i64 0))
    rw [cells_fillm] at h
    exact h
  · exact ((((((((((((HR6.out.far (p := ⟨g, 15, none⟩) (Nat.ne_of_gt hgs) (.slice A n c)).far (p := ⟨g, 16, none⟩) (Nat.ne_of_gt hgs) (.int .u16 0)).far (p := ⟨g, 17, none⟩) (Nat.ne_of_gt hgs) (.int .i32 0)).far (p := ⟨g, 18, none⟩) (Nat.ne_of_gt hgs) (.int .i32 (-1))).far (p := ⟨g, 19, none⟩) (Nat.ne_of_gt hgs) (.pointer none)).far (p := ⟨g, 20, none⟩) (Nat.ne_of_gt hgs) (.slice none 0 0)).far (p := ⟨g, 21, none⟩) (Nat.ne_of_gt hgs) .nilIface).far (p := ⟨g, 1, none⟩) (Nat.ne_of_gt hgs) (.int .i32 ver)).far (p := ⟨g, 2, none⟩) (Nat.ne_of_gt hgs) (.slice (some ⟨rn, 0, none⟩) 1 rc)).far (p := ⟨g, 3, none⟩) (Nat.ne_of_gt hgs) (.slice oA on oc)).far (p := ⟨g, 4, none⟩) (Nat.ne_of_gt hgs) (.int .u32 lock)).far (p := ⟨g, 5, none⟩) (Nat.ne_of_gt hgs) (.int .i64 0))
  · exact ((((((((((((HL6.out.setCell (p := ⟨g, 15, none⟩) hg0 (.slice A n c)).setCell (p := ⟨g, 16, none⟩) hg0 (.int .u16 0)).setCell (p := ⟨g, 17, none⟩) hg0 (.int .i32 0)).setCell (p := ⟨g, 18, none⟩) hg0 (.int .i32 (-1))).setCell (p := ⟨g, 19, none⟩) hg0 (.pointer none)).setCell (p := ⟨g, 20, none⟩) hg0 (.slice none 0 0)).setCell (p := ⟨g, 21, none⟩) hg0 .nilIface).setCell (p := ⟨g, 1, none⟩) hg0 (.int .i32 ver)).setCell (p := ⟨g, 2, none⟩) hg0 (.slice (some ⟨rn, 0, none⟩) 1 rc)).setCell (p := ⟨g, 3, none⟩) hg0 (.slice oA on oc)).setCell (p := ⟨g, 4, none⟩) hg0 (.int .u32 lock)).setCell (p := ⟨g, 5, none⟩) hg0 (.int .i64 0))
end Go.Proofs.YtkgihpebghmnbaaGreatDoor
