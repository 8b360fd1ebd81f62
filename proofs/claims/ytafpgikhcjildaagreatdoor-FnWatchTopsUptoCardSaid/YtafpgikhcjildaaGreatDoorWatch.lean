/- Execute, where each step is told. -/
import Derived.Test.YtafpgikhcjildaaGreatDoorExecute
import Derived.Test.YtafpgikhcjildaaGreatDoorCopySt
import Derived.Below
namespace Go.Proofs.YtafpgikhcjildaaGreatDoor
open Go.RowKit Go.Proofs

set_option maxRecDepth 100000

/-- The state of the machine g is told to the function fid, and K holds behind it (of the block that told it). -/
def Tell (g : Nat) (fid : FuncId) (cap : Array Value) (m : Nat) (K : Nat → World → Prop) (w : World) : Prop :=
  ∃ (x y n c : Nat) (A : Option Addr) (vs : List Value) (xss : List (List UInt8)), g < w.heap.size ∧ w.cell? ⟨g, 12, none⟩ = some (.int .i64 x) ∧ w.cell? ⟨g, 13, none⟩ = some (.int .i64 y) ∧
    w.cell? ⟨g, 23, none⟩ = some (.slice A n c) ∧ w.cell? ⟨g, 25, none⟩ = some (.slice none 0 0) ∧ w.cell? ⟨g, 33, none⟩ = some (.func (.func fid) #[] cap) ∧ Cells w A n vs ∧ RdL 0 w vs xss ∧ n ≤ 100000 ∧ (∀ xs ∈ xss, xs.length ≤ 1000000) ∧
    x ≤ 1000000 ∧ y ≤ 1000000 ∧
    ∀ (w1 : World) (si x' y' T TA : Nat) (vs' : List Value), Below w.heap.size w w1 → w.heap.size ≤ si → w.heap.size ≤ T → x' ≤ m → y' ≤ m →
      Blk w1 si 45 #[.int .i64 x', .int .i64 y', .slice (some ⟨T, 0, none⟩) n n, .slice (some ⟨TA, 0, none⟩) 0 0] → Cells w1 (some ⟨T, 0, none⟩) n vs' → RdL 0 w1 vs' xss →
      Calls Tryz.prog fid (#[.pointer (some ⟨si, 0, none⟩)] ++ cap) w1 fun e w2 => e = .returned .nilIface ∧ K si w2

/-- n steps at most bring the machine to its end, each told. -/
def GoesW (g : Nat) (fid : FuncId) (cap : Array Value) (R : Value → World → Prop) : Nat → Nat → World → Prop
  | 0, _, _ => False
  | n + 1, si, w => Calls Tryz.prog 24 #[.pointer (some ⟨g, 0, none⟩)] w fun e w' =>
      (∃ r, e = .returned (.tuple #[.bool true, r]) ∧ Fault r ∧ R r w') ∨
      (e = .returned (.tuple #[.bool true, .nilIface]) ∧ (∃ x' y' : Nat, w'.cell? ⟨si, 0, none⟩ = some (.int .i64 x') ∧ w'.cell? ⟨si, 1, none⟩ = some (.int .i64 y') ∧ x' ≤ 1000000 ∧ y' ≤ 1000000) ∧ Tell g fid cap 1000001 (fun _ w2 => Ends g R w2) w') ∨
      (e = .returned (.tuple #[.bool false, .nilIface]) ∧ Tell g fid cap 1000000 (fun si' w2 => GoesW g fid cap R n si' w2) w')

theorem fn_ne (fid : FuncId) (cap : Array Value) (w : World) : (binOp BinOp.neq 47 (.func (.func fid) #[] cap) .nilFunc).run Tryz.prog w = .ok (.bool true) w := by kernel_rfl

set_option maxHeartbeats 4000000 in
theorem execute_watch (w : World) (g n : Nat) (fid : FuncId) (cap : Array Value) (R : Value → World → Prop) (h : Tell g fid cap 1000000 (fun si w2 => GoesW g fid cap R n si w2) w) (h6 : w.cell? ⟨g, 6, none⟩ = some (.int .u16 0))
    (hcf : ∀ (args : Array Value) (w : World), (callFunc fid args).run Tryz.prog w = .ok (.enter fid args) w) :
    Calls Tryz.prog 17 #[.pointer (some ⟨g, 0, none⟩)] w fun e w' => ∃ r, e = .returned r ∧ Ret r ∧ R r w' := by
  obtain ⟨x, y, n1, c, A, vs, xss, hlt, c12, c13, c23, c25, c33, hc, hr, hn, hx, hx1, hy1, hk⟩ := h
  have HCF := Lib.hid hcf
  have HC := Lib.hid hc
  have HR := Lib.hid hr
  have HX := Lib.hid hx
  have HK := Lib.hid hk
  have hnf := fn_ne fid cap
  clear hcf hc hr hx hk
  go_enter Tryz.func17, Tryz.ntmps17
  go_wp2_with fail
  refine wp_region_held_drew (S := fun w' => w'.cell? ⟨g, 12, none⟩ = some (.int .i64 x) ∧ w'.cell? ⟨g, 13, none⟩ = some (.int .i64 y) ∧ w'.cell? ⟨g, 23, none⟩ = some (.slice A n1 c) ∧ w'.cell? ⟨g, 25, none⟩ = some (.slice none 0 0)) (by kernel_rfl) ⟨c12, c13, c23, c25⟩ (fun hHeld => ?_)
  refine held_take 0 19 (.pointer (some ⟨g, 0, none⟩)) rfl rfl (by kernel_rfl) (by kernel_rfl) (by kernel_rfl) (fun _ _ _ h => h) (Or.inl ⟨wanted_plain rfl _, fun w hSw => by kernel_rfl⟩) (by assumption) ?_
  simp only [List.set_cons_zero, List.set_cons_succ]
  refine held_take 1 20 (.pointer (some ⟨g, 0, none⟩)) rfl rfl (by kernel_rfl) (by kernel_rfl) (by kernel_rfl) (fun _ _ _ h => h) (Or.inl ⟨wanted_plain rfl _, fun w hSw => by kernel_rfl⟩) (by assumption) ?_
  simp only [List.set_cons_zero, List.set_cons_succ]
  refine held_take 2 21 (.pointer (some ⟨g, 12, none⟩)) rfl rfl (by kernel_rfl) (by kernel_rfl) (by kernel_rfl) (fun _ _ _ h => h) (Or.inl ⟨wanted_plain rfl _, fun w hSw => by kernel_rfl⟩) (by assumption) ?_
  simp only [List.set_cons_zero, List.set_cons_succ]
  refine held_take 4 23 (.pointer (some ⟨g, 0, none⟩)) rfl rfl (by kernel_rfl) (by kernel_rfl) (by kernel_rfl) (fun _ _ _ h => h) (Or.inl ⟨wanted_plain rfl _, fun w hSw => by kernel_rfl⟩) (by assumption) ?_
  simp only [List.set_cons_zero, List.set_cons_succ]
  refine held_take 5 24 (.pointer (some ⟨g, 0, none⟩)) rfl rfl (by kernel_rfl) (by kernel_rfl) (by kernel_rfl) (fun _ _ _ h => h) (Or.inl ⟨wanted_plain rfl _, fun w hSw => by kernel_rfl⟩) (by assumption) ?_
  simp only [List.set_cons_zero, List.set_cons_succ]
  refine held_take 6 25 (.pointer (some ⟨g, 13, none⟩)) rfl rfl (by kernel_rfl) (by kernel_rfl) (by kernel_rfl) (fun _ _ _ h => h) (Or.inl ⟨wanted_plain rfl _, fun w hSw => by kernel_rfl⟩) (by assumption) ?_
  simp only [List.set_cons_zero, List.set_cons_succ]
  refine held_take 8 27 (.pointer (some ⟨g, 0, none⟩)) rfl rfl (by kernel_rfl) (by kernel_rfl) (by kernel_rfl) (fun _ _ _ h => h) (Or.inl ⟨wanted_plain rfl _, fun w hSw => by kernel_rfl⟩) (by assumption) ?_
  simp only [List.set_cons_zero, List.set_cons_succ]
  refine held_take 9 28 (.pointer (some ⟨g, 0, none⟩)) rfl rfl (by kernel_rfl) (by kernel_rfl) (by kernel_rfl) (fun _ _ _ h => h) (Or.inl ⟨wanted_plain rfl _, fun w hSw => by kernel_rfl⟩) (by assumption) ?_
  simp only [List.set_cons_zero, List.set_cons_succ]
  refine held_take 10 29 (.pointer (some ⟨g, 23, none⟩)) rfl rfl (by kernel_rfl) (by kernel_rfl) (by kernel_rfl) (fun _ _ _ h => h) (Or.inl ⟨wanted_plain rfl _, fun w hSw => by kernel_rfl⟩) (by assumption) ?_
  simp only [List.set_cons_zero, List.set_cons_succ]
  refine held_take 11 30 (.pointer (some ⟨g, 23, none⟩)) rfl rfl (by kernel_rfl) (by kernel_rfl) (by kernel_rfl) (fun _ _ _ h => h) (Or.inl ⟨wanted_plain rfl _, fun w hSw => by kernel_rfl⟩) (by assumption) ?_
  simp only [List.set_cons_zero, List.set_cons_succ]
  refine held_take 14 33 (.pointer (some ⟨g, 0, none⟩)) rfl rfl (by kernel_rfl) (by kernel_rfl) (by kernel_rfl) (fun _ _ _ h => h) (Or.inl ⟨wanted_plain rfl _, fun w hSw => by kernel_rfl⟩) (by assumption) ?_
  simp only [List.set_cons_zero, List.set_cons_succ]
  refine held_take 15 34 (.pointer (some ⟨g, 0, none⟩)) rfl rfl (by kernel_rfl) (by kernel_rfl) (by kernel_rfl) (fun _ _ _ h => h) (Or.inl ⟨wanted_plain rfl _, fun w hSw => by kernel_rfl⟩) (by assumption) ?_
  simp only [List.set_cons_zero, List.set_cons_succ]
  refine held_take 16 35 (.pointer (some ⟨g, 25, none⟩)) rfl rfl (by kernel_rfl) (by kernel_rfl) (by kernel_rfl) (fun _ _ _ h => h) (Or.inl ⟨wanted_plain rfl _, fun w hSw => by kernel_rfl⟩) (by assumption) ?_
  simp only [List.set_cons_zero, List.set_cons_succ]
  refine held_take 17 36 (.pointer (some ⟨g, 25, none⟩)) rfl rfl (by kernel_rfl) (by kernel_rfl) (by kernel_rfl) (fun _ _ _ h => h) (Or.inl ⟨wanted_plain rfl _, fun w hSw => by kernel_rfl⟩) (by assumption) ?_
  simp only [List.set_cons_zero, List.set_cons_succ]
  refine held_take 3 22 (.int .i64 x) rfl rfl (by kernel_rfl) (by kernel_rfl) (by kernel_rfl) (fun _ _ _ h => h) (Or.inl ⟨wanted_plain rfl _, fun w hSw => exec_load 3 (.tmp 21) rfl rfl (by (obtain ⟨g1, g2, g3, g4⟩ := hSw; go_simp))⟩) (by assumption) ?_
  simp only [List.set_cons_zero, List.set_cons_succ]
  refine held_take 7 26 (.int .i64 y) rfl rfl (by kernel_rfl) (by kernel_rfl) (by kernel_rfl) (fun _ _ _ h => h) (Or.inl ⟨wanted_plain rfl _, fun w hSw => exec_load 3 (.tmp 25) rfl rfl (by (obtain ⟨g1, g2, g3, g4⟩ := hSw; go_simp))⟩) (by assumption) ?_
  simp only [List.set_cons_zero, List.set_cons_succ]
  refine held_take 12 31 (.slice A n1 c) rfl rfl (by kernel_rfl) (by kernel_rfl) (by kernel_rfl) (fun _ _ _ h => h) (Or.inl ⟨wanted_plain rfl _, fun w hSw => exec_load 22 (.tmp 30) rfl rfl (by (obtain ⟨g1, g2, g3, g4⟩ := hSw; go_simp))⟩) (by assumption) ?_
  simp only [List.set_cons_zero, List.set_cons_succ]
  refine held_take 18 37 (.slice none 0 0) rfl rfl (by kernel_rfl) (by kernel_rfl) (by kernel_rfl) (fun _ _ _ h => h) (Or.inl ⟨wanted_plain rfl _, fun w hSw => exec_load 22 (.tmp 36) rfl rfl (by (obtain ⟨g1, g2, g3, g4⟩ := hSw; go_simp))⟩) (by assumption) ?_
  simp only [List.set_cons_zero, List.set_cons_succ]
  refine wpAnyH_ready (rs := [13]) (by kernel_rfl) (by simp) ?_
  refine AllReadyH.cons (o := _) rfl (fun K hK => ?_) AllReadyH.nil
  refine step_enter 32 23 #[.slice A n1 c] rfl rfl (by kernel_rfl) ?_
  refine (copyStack_any w.drew A n1 c vs xss (show Cells w _ _ _ from HC.out) (show RdL 0 w _ _ from HR.out) hn HX.out).mono ?_
  rintro e v1 ⟨T1, us, rfl, hcs1, hrs1, hbs1, hT1⟩
  have hv1 : Below w.heap.size w v1 := ⟨hbs1.os, hbs1.tape, hbs1.output, hbs1.size, hbs1.block⟩
  refine ⟨_, rfl, ?_⟩
  refine hK.out _ _ ⟨cell_keep hv1 c12, cell_keep hv1 c13, cell_keep hv1 c23, cell_keep hv1 c25⟩ (fun hHeld => ?_)
  clear hK K
  simp only [List.set_cons_zero, List.set_cons_succ]
  refine wpAnyH_ready (rs := [19]) (by kernel_rfl) (by simp) ?_
  refine AllReadyH.cons (o := _) rfl (fun K hK => ?_) AllReadyH.nil
  refine step_enter 38 23 #[.slice none 0 0] rfl rfl (by kernel_rfl) ?_
  refine (copyStack_any v1 none 0 0 [] [] ⟨rfl, fun h => absurd h (by omega)⟩ RdL.nil (by omega) (fun _ h => by simp at h)).mono ?_
  rintro e v2 ⟨T2, us2, rfl, -, -, hbs2, -⟩
  have hv2 : Below w.heap.size w v2 := hv1.trans (hbs2.mono hv1.size)
  have hcs2 := hcs1.below hbs2
  have hrs2 := hrs1.below hbs2
  refine ⟨_, rfl, ?_⟩
  refine hK.out _ _ ⟨cell_keep hv2 c12, cell_keep hv2 c13, cell_keep hv2 c23, cell_keep hv2 c25⟩ (fun hHeld => ?_)
  clear hK K
  simp only [List.set_cons_zero, List.set_cons_succ]
  refine held_take 20 39 (.agg #[.int .i64 x, .int .i64 y, .slice (some ⟨T1, 0, none⟩) n1 n1, .slice (some ⟨T2, 0, none⟩) 0 0]) rfl rfl (by kernel_rfl) (by kernel_rfl) (by kernel_rfl) (fun _ _ _ h => h) (Or.inl ⟨wanted_plain rfl _, fun w hSw => by kernel_rfl⟩) (by assumption) ?_
  simp only [List.set_cons_zero, List.set_cons_succ]
  refine wpAnyH_ready (rs := [21]) (by kernel_rfl) (by simp) ?_
  refine AllReadyH.cons (o := _) rfl (fun K hK => ?_) AllReadyH.nil
  refine step_val 40 (w' := v2.alloc (.cells #[.int .i64 x, .int .i64 y, .slice (some ⟨T1, 0, none⟩) n1 n1, .slice (some ⟨T2, 0, none⟩) 0 0] 45)) (v := .pointer (some ⟨v2.heap.size, 0, none⟩)) rfl rfl (by kernel_rfl) ?_
  have hv3 : Below w.heap.size w (v2.alloc (.cells #[.int .i64 x, .int .i64 y, .slice (some ⟨T1, 0, none⟩) n1 n1, .slice (some ⟨T2, 0, none⟩) 0 0] 45)) := hv2.alloc hv2.size _
  have hsi := Blk.new v2 45 #[.int .i64 x, .int .i64 y, .slice (some ⟨T1, 0, none⟩) n1 n1, .slice (some ⟨T2, 0, none⟩) 0 0]
  have hcs3 := hcs2.below ((Below.refl _ _).alloc (Nat.le_refl _) (.cells #[.int .i64 x, .int .i64 y, .slice (some ⟨T1, 0, none⟩) n1 n1, .slice (some ⟨T2, 0, none⟩) 0 0] 45))
  have hrs3 := hrs2.below ((Below.refl _ _).alloc (Nat.le_refl _) (.cells #[.int .i64 x, .int .i64 y, .slice (some ⟨T1, 0, none⟩) n1 n1, .slice (some ⟨T2, 0, none⟩) 0 0] 45))
  refine hK.out _ _ ⟨cell_keep hv3 c12, cell_keep hv3 c13, cell_keep hv3 c23, cell_keep hv3 c25⟩ (fun hHeld => ?_)
  clear hK K
  simp only [List.set_cons_zero, List.set_cons_succ]
  refine held_take 22 3 (.pointer (some ⟨v2.heap.size, 0, none⟩)) rfl rfl (by kernel_rfl) (by kernel_rfl) (by kernel_rfl) (fun _ _ _ h => h) (Or.inl ⟨wanted_plain rfl _, fun w hSw => by kernel_rfl⟩) (by assumption) ?_
  simp only [List.set_cons_zero, List.set_cons_succ]
  refine wpAnyH_done (by kernel_rfl) ?_ _
  have hsl : w.heap.size ≤ v2.heap.size := hv2.size
  generalize v2.heap.size = si at *
  generalize v2.alloc (.cells #[.int .i64 x, .int .i64 y, .slice (some ⟨T1, 0, none⟩) n1 n1, .slice (some ⟨T2, 0, none⟩) 0 0] 45) = v3 at *
  have d33 := cell_keep hv3 c33
  have hcf := HCF.out
  go_wp2_with fail
  refine (HK.out v3 si x y T1 T2 us hv3 hsl hT1 (by omega) (by omega) hsi hcs3 hrs3).mono ?_
  rintro e w4 ⟨rfl, hK4⟩
  have HK4 := Lib.hid hK4
  clear hK4 d33 c12 c13 c23 c25 c33 hcs3 hrs3 hsi hv3 hcs2 hrs2 hv2 hbs2 hcs1 hrs1 hbs1 hv1 hHeld hcf h6 hlt hsl HC HR HX HK
  go_wp2_with fail
  go_loopg [5, 3] (n + 1) (fun k s5 s3 wx => ∃ si, s3 = .pointer (some ⟨si, 0, none⟩) ∧ ((s5 = .bool false ∧ ∃ m, k = m + 1 ∧ GoesW g fid cap R m si wx) ∨ (s5 = .bool true ∧ k = 0 ∧ Ends g R wx)))
  case atStart => exact ⟨si, rfl, .inl ⟨rfl, n, rfl, HK4.out⟩⟩
  case round =>
    obtain ⟨sj, rfl, ⟨rfl, m, rfl, hgo⟩ | ⟨rfl, rfl, hfin⟩⟩ := hrel
    · cases m with
      | zero => exact hgo.elim
      | succ m =>
      have HG2 := Lib.hid hgo
      clear hgo HK4
      go_wp2_with fail
      refine Calls.mono (show Calls _ _ _ _ _ from HG2.out) ?_
      rintro e w5 (⟨r, rfl, ⟨cd, s, rfl, h0, h1⟩, hr⟩ | ⟨rfl, ⟨x1, y1, s0, s1, hx1', hy1'⟩, ⟨x2, y2, n2, c2, A2, vs2, xss2, hlt2, d12, d13, d23, d25, d33, hc2, hr2, hn2, hx2, hxb, hyb, hk2⟩⟩ | ⟨rfl, ⟨x2, y2, n2, c2, A2, vs2, xss2, hlt2, d12, d13, d23, d25, d33, hc2, hr2, hn2, hx2, hxb, hyb, hk2⟩⟩)
      · have hr := Lib.hid hr
        go_wp2
        go_ret
        exact ⟨_, rfl, .inr ⟨cd, s, rfl, h0, h1⟩, hr.out⟩
      · obtain ⟨yy, hyy⟩ : ∃ yy : Nat, (y1 : Int) + 1 = (yy : Int) := ⟨y1 + 1, by omega⟩
        have hy0 : (0 : Int) ≤ (y1 : Int) := by omega
        have hy9 : (y1 : Int) ≤ 1000000 := by omega
        have hyn : yy ≤ 1000001 := by omega
        have HC2 := Lib.hid hc2
        have HR2 := Lib.hid hr2
        have HX2 := Lib.hid hx2
        have HK2 := Lib.hid hk2
        clear hc2 hr2 hx2 hk2
        go_wp2_with fail
        clear hyy hy0 hy9
        refine wp_region_held_drew (S := fun w' => w'.cell? ⟨g, 12, none⟩ = some (.int .i64 x2) ∧ w'.cell? ⟨g, 13, none⟩ = some (.int .i64 y2) ∧ w'.cell? ⟨g, 23, none⟩ = some (.slice A2 n2 c2) ∧ w'.cell? ⟨g, 25, none⟩ = some (.slice none 0 0)) (by kernel_rfl) ⟨d12, d13, d23, d25⟩ (fun hHeld => ?_)
        refine held_take 0 83 (.int .i64 x1) rfl rfl (by kernel_rfl) (by kernel_rfl) (by kernel_rfl) (fun _ _ _ h => h) (Or.inl ⟨wanted_plain rfl _, fun w hSw => by kernel_rfl⟩) (by assumption) ?_
        simp only [List.set_cons_zero, List.set_cons_succ]
        refine held_take 1 84 (.int .i64 yy) rfl rfl (by kernel_rfl) (by kernel_rfl) (by kernel_rfl) (fun _ _ _ h => h) (Or.inl ⟨wanted_plain rfl _, fun w hSw => by kernel_rfl⟩) (by assumption) ?_
        simp only [List.set_cons_zero, List.set_cons_succ]
        refine held_take 2 85 (.pointer (some ⟨g, 0, none⟩)) rfl rfl (by kernel_rfl) (by kernel_rfl) (by kernel_rfl) (fun _ _ _ h => h) (Or.inl ⟨wanted_plain rfl _, fun w hSw => by kernel_rfl⟩) (by assumption) ?_
        simp only [List.set_cons_zero, List.set_cons_succ]
        refine held_take 3 86 (.pointer (some ⟨g, 0, none⟩)) rfl rfl (by kernel_rfl) (by kernel_rfl) (by kernel_rfl) (fun _ _ _ h => h) (Or.inl ⟨wanted_plain rfl _, fun w hSw => by kernel_rfl⟩) (by assumption) ?_
        simp only [List.set_cons_zero, List.set_cons_succ]
        refine held_take 4 87 (.pointer (some ⟨g, 23, none⟩)) rfl rfl (by kernel_rfl) (by kernel_rfl) (by kernel_rfl) (fun _ _ _ h => h) (Or.inl ⟨wanted_plain rfl _, fun w hSw => by kernel_rfl⟩) (by assumption) ?_
        simp only [List.set_cons_zero, List.set_cons_succ]
        refine held_take 5 88 (.pointer (some ⟨g, 23, none⟩)) rfl rfl (by kernel_rfl) (by kernel_rfl) (by kernel_rfl) (fun _ _ _ h => h) (Or.inl ⟨wanted_plain rfl _, fun w hSw => by kernel_rfl⟩) (by assumption) ?_
        simp only [List.set_cons_zero, List.set_cons_succ]
        refine held_take 6 89 (.slice A2 n2 c2) rfl rfl (by kernel_rfl) (by kernel_rfl) (by kernel_rfl) (fun _ _ _ h => h) (Or.inl ⟨wanted_plain rfl _, fun w hSw => exec_load 22 (.tmp 88) rfl rfl (by (obtain ⟨g1, g2, g3, g4⟩ := hSw; go_simp))⟩) (by assumption) ?_
        simp only [List.set_cons_zero, List.set_cons_succ]
        refine held_take 8 91 (.pointer (some ⟨g, 0, none⟩)) rfl rfl (by kernel_rfl) (by kernel_rfl) (by kernel_rfl) (fun _ _ _ h => h) (Or.inl ⟨wanted_plain rfl _, fun w hSw => by kernel_rfl⟩) (by assumption) ?_
        simp only [List.set_cons_zero, List.set_cons_succ]
        refine held_take 9 92 (.pointer (some ⟨g, 0, none⟩)) rfl rfl (by kernel_rfl) (by kernel_rfl) (by kernel_rfl) (fun _ _ _ h => h) (Or.inl ⟨wanted_plain rfl _, fun w hSw => by kernel_rfl⟩) (by assumption) ?_
        simp only [List.set_cons_zero, List.set_cons_succ]
        refine held_take 10 93 (.pointer (some ⟨g, 25, none⟩)) rfl rfl (by kernel_rfl) (by kernel_rfl) (by kernel_rfl) (fun _ _ _ h => h) (Or.inl ⟨wanted_plain rfl _, fun w hSw => by kernel_rfl⟩) (by assumption) ?_
        simp only [List.set_cons_zero, List.set_cons_succ]
        refine held_take 11 94 (.pointer (some ⟨g, 25, none⟩)) rfl rfl (by kernel_rfl) (by kernel_rfl) (by kernel_rfl) (fun _ _ _ h => h) (Or.inl ⟨wanted_plain rfl _, fun w hSw => by kernel_rfl⟩) (by assumption) ?_
        simp only [List.set_cons_zero, List.set_cons_succ]
        refine held_take 12 95 (.slice none 0 0) rfl rfl (by kernel_rfl) (by kernel_rfl) (by kernel_rfl) (fun _ _ _ h => h) (Or.inl ⟨wanted_plain rfl _, fun w hSw => exec_load 22 (.tmp 94) rfl rfl (by (obtain ⟨g1, g2, g3, g4⟩ := hSw; go_simp))⟩) (by assumption) ?_
        simp only [List.set_cons_zero, List.set_cons_succ]
        refine wpAnyH_ready (rs := [7]) (by kernel_rfl) (by simp) ?_
        refine AllReadyH.cons (o := _) rfl (fun K hK => ?_) AllReadyH.nil
        refine step_enter 90 23 #[.slice A2 n2 c2] rfl rfl (by kernel_rfl) ?_
        refine (copyStack_any w5.drew A2 n2 c2 vs2 xss2 (show Cells w5 _ _ _ from HC2.out) (show RdL 0 w5 _ _ from HR2.out) hn2 HX2.out).mono ?_
        rintro e v1 ⟨T1, us, rfl, hcs1, hrs1, hbs1, hT1⟩
        have hv1 : Below w5.heap.size w5 v1 := ⟨hbs1.os, hbs1.tape, hbs1.output, hbs1.size, hbs1.block⟩
        refine ⟨_, rfl, ?_⟩
        refine hK.out _ _ ⟨cell_keep hv1 d12, cell_keep hv1 d13, cell_keep hv1 d23, cell_keep hv1 d25⟩ (fun hHeld => ?_)
        clear hK K
        simp only [List.set_cons_zero, List.set_cons_succ]
        refine wpAnyH_ready (rs := [13]) (by kernel_rfl) (by simp) ?_
        refine AllReadyH.cons (o := _) rfl (fun K hK => ?_) AllReadyH.nil
        refine step_enter 96 23 #[.slice none 0 0] rfl rfl (by kernel_rfl) ?_
        refine (copyStack_any v1 none 0 0 [] [] ⟨rfl, fun h => absurd h (by omega)⟩ RdL.nil (by omega) (fun _ h => by simp at h)).mono ?_
        rintro e v2 ⟨T2, us2, rfl, -, -, hbs2, -⟩
        have hv2 : Below w5.heap.size w5 v2 := hv1.trans (hbs2.mono hv1.size)
        have hcs2 := hcs1.below hbs2
        have hrs2 := hrs1.below hbs2
        refine ⟨_, rfl, ?_⟩
        refine hK.out _ _ ⟨cell_keep hv2 d12, cell_keep hv2 d13, cell_keep hv2 d23, cell_keep hv2 d25⟩ (fun hHeld => ?_)
        clear hK K
        simp only [List.set_cons_zero, List.set_cons_succ]
        refine held_take 14 97 (.agg #[.int .i64 x1, .int .i64 yy, .slice (some ⟨T1, 0, none⟩) n2 n2, .slice (some ⟨T2, 0, none⟩) 0 0]) rfl rfl (by kernel_rfl) (by kernel_rfl) (by kernel_rfl) (fun _ _ _ h => h) (Or.inl ⟨wanted_plain rfl _, fun w hSw => by kernel_rfl⟩) (by assumption) ?_
        simp only [List.set_cons_zero, List.set_cons_succ]
        refine wpAnyH_ready (rs := [15]) (by kernel_rfl) (by simp) ?_
        refine AllReadyH.cons (o := _) rfl (fun K hK => ?_) AllReadyH.nil
        refine step_val 98 (w' := v2.alloc (.cells #[.int .i64 x1, .int .i64 yy, .slice (some ⟨T1, 0, none⟩) n2 n2, .slice (some ⟨T2, 0, none⟩) 0 0] 45)) (v := .pointer (some ⟨v2.heap.size, 0, none⟩)) rfl rfl (by kernel_rfl) ?_
        have hv3 : Below w5.heap.size w5 (v2.alloc (.cells #[.int .i64 x1, .int .i64 yy, .slice (some ⟨T1, 0, none⟩) n2 n2, .slice (some ⟨T2, 0, none⟩) 0 0] 45)) := hv2.alloc hv2.size _
        have hsi := Blk.new v2 45 #[.int .i64 x1, .int .i64 yy, .slice (some ⟨T1, 0, none⟩) n2 n2, .slice (some ⟨T2, 0, none⟩) 0 0]
        have hcs3 := hcs2.below ((Below.refl _ _).alloc (Nat.le_refl _) (.cells #[.int .i64 x1, .int .i64 yy, .slice (some ⟨T1, 0, none⟩) n2 n2, .slice (some ⟨T2, 0, none⟩) 0 0] 45))
        have hrs3 := hrs2.below ((Below.refl _ _).alloc (Nat.le_refl _) (.cells #[.int .i64 x1, .int .i64 yy, .slice (some ⟨T1, 0, none⟩) n2 n2, .slice (some ⟨T2, 0, none⟩) 0 0] 45))
        refine hK.out _ _ ⟨cell_keep hv3 d12, cell_keep hv3 d13, cell_keep hv3 d23, cell_keep hv3 d25⟩ (fun hHeld => ?_)
        clear hK K
        simp only [List.set_cons_zero, List.set_cons_succ]
        refine held_take 16 3 (.pointer (some ⟨v2.heap.size, 0, none⟩)) rfl rfl (by kernel_rfl) (by kernel_rfl) (by kernel_rfl) (fun _ _ _ h => h) (Or.inl ⟨wanted_plain rfl _, fun w hSw => by kernel_rfl⟩) (by assumption) ?_
        simp only [List.set_cons_zero, List.set_cons_succ]
        refine wpAnyH_done (by kernel_rfl) ?_ _
        have hsl : w5.heap.size ≤ v2.heap.size := hv2.size
        generalize v2.heap.size = si at *
        generalize v2.alloc (.cells #[.int .i64 x1, .int .i64 yy, .slice (some ⟨T1, 0, none⟩) n2 n2, .slice (some ⟨T2, 0, none⟩) 0 0] 45) = v3 at *
        have e33 := cell_keep hv3 d33
        have hcf := HCF.out
        go_wp2_with fail
        refine (HK2.out v3 si x1 yy T1 T2 us hv3 hsl hT1 (by omega) hyn hsi hcs3 hrs3).mono ?_
        rintro e w6 ⟨rfl, hK6⟩
        have HK6 := Lib.hid hK6
        clear hK6
        go_wp2_with fail
        go_roundg 0
        case measure => omega
        case rel => exact ⟨si, rfl, .inr ⟨rfl, rfl, HK6.out⟩⟩
      · skip
        have HC2 := Lib.hid hc2
        have HR2 := Lib.hid hr2
        have HX2 := Lib.hid hx2
        have HK2 := Lib.hid hk2
        clear hc2 hr2 hx2 hk2
        go_wp2_with fail
        refine wp_region_held_drew (S := fun w' => w'.cell? ⟨g, 12, none⟩ = some (.int .i64 x2) ∧ w'.cell? ⟨g, 13, none⟩ = some (.int .i64 y2) ∧ w'.cell? ⟨g, 23, none⟩ = some (.slice A2 n2 c2) ∧ w'.cell? ⟨g, 25, none⟩ = some (.slice none 0 0)) (by kernel_rfl) ⟨d12, d13, d23, d25⟩ (fun hHeld => ?_)
        refine held_take 0 83 (.int .i64 x2) rfl rfl (by kernel_rfl) (by kernel_rfl) (by kernel_rfl) (fun _ _ _ h => h) (Or.inl ⟨wanted_plain rfl _, fun w hSw => by kernel_rfl⟩) (by assumption) ?_
        simp only [List.set_cons_zero, List.set_cons_succ]
        refine held_take 1 84 (.int .i64 y2) rfl rfl (by kernel_rfl) (by kernel_rfl) (by kernel_rfl) (fun _ _ _ h => h) (Or.inl ⟨wanted_plain rfl _, fun w hSw => by kernel_rfl⟩) (by assumption) ?_
        simp only [List.set_cons_zero, List.set_cons_succ]
        refine held_take 2 85 (.pointer (some ⟨g, 0, none⟩)) rfl rfl (by kernel_rfl) (by kernel_rfl) (by kernel_rfl) (fun _ _ _ h => h) (Or.inl ⟨wanted_plain rfl _, fun w hSw => by kernel_rfl⟩) (by assumption) ?_
        simp only [List.set_cons_zero, List.set_cons_succ]
        refine held_take 3 86 (.pointer (some ⟨g, 0, none⟩)) rfl rfl (by kernel_rfl) (by kernel_rfl) (by kernel_rfl) (fun _ _ _ h => h) (Or.inl ⟨wanted_plain rfl _, fun w hSw => by kernel_rfl⟩) (by assumption) ?_
        simp only [List.set_cons_zero, List.set_cons_succ]
        refine held_take 4 87 (.pointer (some ⟨g, 23, none⟩)) rfl rfl (by kernel_rfl) (by kernel_rfl) (by kernel_rfl) (fun _ _ _ h => h) (Or.inl ⟨wanted_plain rfl _, fun w hSw => by kernel_rfl⟩) (by assumption) ?_
        simp only [List.set_cons_zero, List.set_cons_succ]
        refine held_take 5 88 (.pointer (some ⟨g, 23, none⟩)) rfl rfl (by kernel_rfl) (by kernel_rfl) (by kernel_rfl) (fun _ _ _ h => h) (Or.inl ⟨wanted_plain rfl _, fun w hSw => by kernel_rfl⟩) (by assumption) ?_
        simp only [List.set_cons_zero, List.set_cons_succ]
        refine held_take 6 89 (.slice A2 n2 c2) rfl rfl (by kernel_rfl) (by kernel_rfl) (by kernel_rfl) (fun _ _ _ h => h) (Or.inl ⟨wanted_plain rfl _, fun w hSw => exec_load 22 (.tmp 88) rfl rfl (by (obtain ⟨g1, g2, g3, g4⟩ := hSw; go_simp))⟩) (by assumption) ?_
        simp only [List.set_cons_zero, List.set_cons_succ]
        refine held_take 8 91 (.pointer (some ⟨g, 0, none⟩)) rfl rfl (by kernel_rfl) (by kernel_rfl) (by kernel_rfl) (fun _ _ _ h => h) (Or.inl ⟨wanted_plain rfl _, fun w hSw => by kernel_rfl⟩) (by assumption) ?_
        simp only [List.set_cons_zero, List.set_cons_succ]
        refine held_take 9 92 (.pointer (some ⟨g, 0, none⟩)) rfl rfl (by kernel_rfl) (by kernel_rfl) (by kernel_rfl) (fun _ _ _ h => h) (Or.inl ⟨wanted_plain rfl _, fun w hSw => by kernel_rfl⟩) (by assumption) ?_
        simp only [List.set_cons_zero, List.set_cons_succ]
        refine held_take 10 93 (.pointer (some ⟨g, 25, none⟩)) rfl rfl (by kernel_rfl) (by kernel_rfl) (by kernel_rfl) (fun _ _ _ h => h) (Or.inl ⟨wanted_plain rfl _, fun w hSw => by kernel_rfl⟩) (by assumption) ?_
        simp only [List.set_cons_zero, List.set_cons_succ]
        refine held_take 11 94 (.pointer (some ⟨g, 25, none⟩)) rfl rfl (by kernel_rfl) (by kernel_rfl) (by kernel_rfl) (fun _ _ _ h => h) (Or.inl ⟨wanted_plain rfl _, fun w hSw => by kernel_rfl⟩) (by assumption) ?_
        simp only [List.set_cons_zero, List.set_cons_succ]
        refine held_take 12 95 (.slice none 0 0) rfl rfl (by kernel_rfl) (by kernel_rfl) (by kernel_rfl) (fun _ _ _ h => h) (Or.inl ⟨wanted_plain rfl _, fun w hSw => exec_load 22 (.tmp 94) rfl rfl (by (obtain ⟨g1, g2, g3, g4⟩ := hSw; go_simp))⟩) (by assumption) ?_
        simp only [List.set_cons_zero, List.set_cons_succ]
        refine wpAnyH_ready (rs := [7]) (by kernel_rfl) (by simp) ?_
        refine AllReadyH.cons (o := _) rfl (fun K hK => ?_) AllReadyH.nil
        refine step_enter 90 23 #[.slice A2 n2 c2] rfl rfl (by kernel_rfl) ?_
        refine (copyStack_any w5.drew A2 n2 c2 vs2 xss2 (show Cells w5 _ _ _ from HC2.out) (show RdL 0 w5 _ _ from HR2.out) hn2 HX2.out).mono ?_
        rintro e v1 ⟨T1, us, rfl, hcs1, hrs1, hbs1, hT1⟩
        have hv1 : Below w5.heap.size w5 v1 := ⟨hbs1.os, hbs1.tape, hbs1.output, hbs1.size, hbs1.block⟩
        refine ⟨_, rfl, ?_⟩
        refine hK.out _ _ ⟨cell_keep hv1 d12, cell_keep hv1 d13, cell_keep hv1 d23, cell_keep hv1 d25⟩ (fun hHeld => ?_)
        clear hK K
        simp only [List.set_cons_zero, List.set_cons_succ]
        refine wpAnyH_ready (rs := [13]) (by kernel_rfl) (by simp) ?_
        refine AllReadyH.cons (o := _) rfl (fun K hK => ?_) AllReadyH.nil
        refine step_enter 96 23 #[.slice none 0 0] rfl rfl (by kernel_rfl) ?_
        refine (copyStack_any v1 none 0 0 [] [] ⟨rfl, fun h => absurd h (by omega)⟩ RdL.nil (by omega) (fun _ h => by simp at h)).mono ?_
        rintro e v2 ⟨T2, us2, rfl, -, -, hbs2, -⟩
        have hv2 : Below w5.heap.size w5 v2 := hv1.trans (hbs2.mono hv1.size)
        have hcs2 := hcs1.below hbs2
        have hrs2 := hrs1.below hbs2
        refine ⟨_, rfl, ?_⟩
        refine hK.out _ _ ⟨cell_keep hv2 d12, cell_keep hv2 d13, cell_keep hv2 d23, cell_keep hv2 d25⟩ (fun hHeld => ?_)
        clear hK K
        simp only [List.set_cons_zero, List.set_cons_succ]
        refine held_take 14 97 (.agg #[.int .i64 x2, .int .i64 y2, .slice (some ⟨T1, 0, none⟩) n2 n2, .slice (some ⟨T2, 0, none⟩) 0 0]) rfl rfl (by kernel_rfl) (by kernel_rfl) (by kernel_rfl) (fun _ _ _ h => h) (Or.inl ⟨wanted_plain rfl _, fun w hSw => by kernel_rfl⟩) (by assumption) ?_
        simp only [List.set_cons_zero, List.set_cons_succ]
        refine wpAnyH_ready (rs := [15]) (by kernel_rfl) (by simp) ?_
        refine AllReadyH.cons (o := _) rfl (fun K hK => ?_) AllReadyH.nil
        refine step_val 98 (w' := v2.alloc (.cells #[.int .i64 x2, .int .i64 y2, .slice (some ⟨T1, 0, none⟩) n2 n2, .slice (some ⟨T2, 0, none⟩) 0 0] 45)) (v := .pointer (some ⟨v2.heap.size, 0, none⟩)) rfl rfl (by kernel_rfl) ?_
        have hv3 : Below w5.heap.size w5 (v2.alloc (.cells #[.int .i64 x2, .int .i64 y2, .slice (some ⟨T1, 0, none⟩) n2 n2, .slice (some ⟨T2, 0, none⟩) 0 0] 45)) := hv2.alloc hv2.size _
        have hsi := Blk.new v2 45 #[.int .i64 x2, .int .i64 y2, .slice (some ⟨T1, 0, none⟩) n2 n2, .slice (some ⟨T2, 0, none⟩) 0 0]
        have hcs3 := hcs2.below ((Below.refl _ _).alloc (Nat.le_refl _) (.cells #[.int .i64 x2, .int .i64 y2, .slice (some ⟨T1, 0, none⟩) n2 n2, .slice (some ⟨T2, 0, none⟩) 0 0] 45))
        have hrs3 := hrs2.below ((Below.refl _ _).alloc (Nat.le_refl _) (.cells #[.int .i64 x2, .int .i64 y2, .slice (some ⟨T1, 0, none⟩) n2 n2, .slice (some ⟨T2, 0, none⟩) 0 0] 45))
        refine hK.out _ _ ⟨cell_keep hv3 d12, cell_keep hv3 d13, cell_keep hv3 d23, cell_keep hv3 d25⟩ (fun hHeld => ?_)
        clear hK K
        simp only [List.set_cons_zero, List.set_cons_succ]
        refine held_take 16 3 (.pointer (some ⟨v2.heap.size, 0, none⟩)) rfl rfl (by kernel_rfl) (by kernel_rfl) (by kernel_rfl) (fun _ _ _ h => h) (Or.inl ⟨wanted_plain rfl _, fun w hSw => by kernel_rfl⟩) (by assumption) ?_
        simp only [List.set_cons_zero, List.set_cons_succ]
        refine wpAnyH_done (by kernel_rfl) ?_ _
        have hsl : w5.heap.size ≤ v2.heap.size := hv2.size
        generalize v2.heap.size = si at *
        generalize v2.alloc (.cells #[.int .i64 x2, .int .i64 y2, .slice (some ⟨T1, 0, none⟩) n2 n2, .slice (some ⟨T2, 0, none⟩) 0 0] 45) = v3 at *
        have e33 := cell_keep hv3 d33
        have hcf := HCF.out
        go_wp2_with fail
        refine (HK2.out v3 si x2 y2 T1 T2 us hv3 hsl hT1 (by omega) (by omega) hsi hcs3 hrs3).mono ?_
        rintro e w6 ⟨rfl, hK6⟩
        have HK6 := Lib.hid hK6
        clear hK6
        go_wp2_with fail
        go_roundg (m + 1)
        case measure => omega
        case rel => exact ⟨si, rfl, .inl ⟨rfl, m, rfl, HK6.out⟩⟩
    · have HE := Lib.hid hfin
      clear hfin
      go_wp2_with fail
      refine Calls.mono (show Calls _ _ _ _ _ from HE.out) ?_
      rintro e w5 ⟨r, rfl, hret, hr⟩
      have hr := Lib.hid hr
      rcases hret with rfl | ⟨cd, s, rfl, h0, h1⟩
      · go_wp2
        go_ret
        exact ⟨_, rfl, .inl rfl, hr.out⟩
      · go_wp2
        go_ret
        exact ⟨_, rfl, .inr ⟨cd, s, rfl, h0, h1⟩, hr.out⟩
end Go.Proofs.YtafpgikhcjildaaGreatDoor
