/- A copy of a stack, whatever lies on it. -/
import Derived.Test.YtafpgikhcjildaaGreatDoorGet
import Derived.Test.YtafpgikhcjildaaGreatDoorReg
import Derived.Laws.CopyRow
import Derived.Laws.IdiomCopy
namespace Go.Proofs.YtafpgikhcjildaaGreatDoor
open Go.RowKit Go.Proofs

set_option maxRecDepth 100000

theorem cBlk_setRow {w : World} {g : Nat} {t : TypeId} {cs : Array Value} (h : Blk w g t cs) (cs' : Array Value) : Blk (w.setRow g cs') g t cs' := setRow_heap w g cs cs' t (0, 0) h
theorem cFm_setRow {w w' : World} {g : Nat} (h : Fm (M1 g) w w') (cs : Array Value) : Fm (M1 g) w (w'.setRow g cs) :=
  ⟨h.os, h.tape, h.output, by simpa [World.setRow] using h.size, fun k hk hn => by
    have : k ≠ g := hn
    rw [← h.block k hk hn]
    simp only [World.setRow, Array.getElem?_modify]
    rw [if_neg (Ne.symm this)]⟩
theorem info_u8s : (Tryz.prog.info? 5).map (·.size) = some 1 := by kernel_rfl

theorem slice_all (w : World) (A : Option Addr) (n c : Nat) : (Instr.sliceAt 24 (.slice A n c) none none none).run Tryz.prog w = .ok (.slice A n c) w := by
  have hs : ∀ w, (sizeOf 5).run Tryz.prog w = .ok 1 w := fun w => by kernel_rfl
  have hA : A.map (fun a => a.add (0 * 1)) = A := by
    cases A with
    | none => rfl
    | some a => simp [Addr.add]
  have hA' : A.map (fun a => a.add 0) = A := by simpa using hA
  simp [Instr.sliceAt, Instr.slice, Instr.sliceBounds, run_underlying Tryz.underlying24, hs, hA']
theorem exec_slice {P : Program} {ρ : Operand → Value} {o : Oper} {w : World} (ty : TypeId) (x : Operand) {v u : Value} (ho : o.op = .slice ty x none none none) (hx : ρ x = v) (hr : (Instr.sliceAt ty v none none none).run P w = .ok u w) : (execOp ρ o).run P w = .ok (.value u) w := by
  unfold execOp
  simp only [ho, hx, Option.map_none, Sem.run_bind, Sem.run_pure, Result.andThen_ok, hr]
theorem exec_copy {P : Program} {ρ : Operand → Value} {o : Oper} {w w' : World} (x y : Operand) (t t' : TypeId) {a b u : Value} (ho : o.op = .call { callee := .builtin .copy, args := #[x, y], argTypes := #[t, t'] }) (hx : ρ x = a) (hy : ρ y = b)
    (hr : (Builtin.copy_ #[t, t'] o.type #[a, b]).run P w = .ok u w') : (execOp ρ o).run P w = .ok (.value u) w' := by
  unfold execOp
  simp only [ho, resolve, invoke, builtin, Sem.run_bind, Sem.run_pure, Result.andThen_ok, List.map_toArray, List.map_cons, List.map_nil, hx, hy, hr]

/-- Bytes copied over a row of as many cells. -/
theorem copy_bytes (w : World) (D L cv : Nat) (A : Option Addr) (mc : Array Value) (xs : List UInt8) (hD : Blk w D 5 mc) (hm : mc.size = L) (hl : xs.length = L) (hc : Cells w A L (bv xs)) :
    ∃ w' cs', (Builtin.copy_ #[24, 24] 3 #[.slice (some ⟨D, 0, none⟩) L L, .slice A L cv]).run Tryz.prog w = .ok (goInt L) w' ∧ Blk w' D 5 cs' ∧ Rd 0 w' (.slice (some ⟨D, 0, none⟩) L L) xs ∧ Fm (M1 D) w w' := by
  rcases Nat.eq_zero_or_pos L with h0 | h0
  · subst h0
    refine ⟨w, mc, ?_, hD, ?_, Fm.refl _ _⟩
    · exact run_copy_none w 24 24 3 5 _ _ 0 0 0 cv Tryz.underlying24 info_u8s (by simp)
    · have : xs = [] := List.eq_nil_of_length_eq_zero hl
      subst this
      exact Rd.nil _ _ _ _
  · obtain ⟨b, o, rfl, hcell⟩ := hc.2 h0
    have hbl : (bv xs).length = L := by rw [bv_length]; exact hl
    have hrun := run_copy_row (P := Tryz.prog) w 24 24 3 5 D 0 L L ⟨b, o, none⟩ L cv mc 5 (bv xs) Tryz.underlying24 info_u8s hD (by rw [hbl]; simp) (fun j v hv => by rw [addr_add]; exact hcell j v hv) (by omega) (by
      intro u hu
      simp only [bv, List.mem_map] at hu
      obtain ⟨x, _, rfl⟩ := hu
      rfl)
    have hrow : (mc.toList.take 0 ++ bv xs ++ mc.toList.drop (0 + (bv xs).length)).toArray = (bv xs).toArray := by
      rw [List.drop_eq_nil_of_le (by rw [hbl]; simp [hm])]
      simp
    rw [hrow, hbl] at hrun
    refine ⟨_, _, hrun, cBlk_setRow hD _, ?_, cFm_setRow (Fm.refl _ _) _⟩
    refine ⟨some ⟨D, 0, none⟩, L, by rw [hl], by omega, fun _ => ⟨D, 0, _, _, _, rfl, cBlk_setRow hD _, .inr (by decide), fun j u hj => ?_⟩⟩
    rw [Nat.zero_add, List.getElem?_toArray, bv_get, hj]
    rfl

/-- The loop's relation. -/
def CsRel (w : World) (T n : Nat) (xss : List (List UInt8)) (k : Nat) (s10 _s4 : Value) (wx : World) : Prop :=
  ∃ (i : Nat) (cs : Array Value) (vs' : List Value), k = n - i + 1 ∧ i ≤ n ∧ s10 = .int .i64 i ∧ Blk wx T 24 cs ∧ cs.size = n ∧ vs'.length = i ∧ (∀ (j : Nat) (u : Value), vs'[j]? = some u → cs[j]? = some u) ∧ RdL 0 wx vs' (xss.take i) ∧ Below w.heap.size w wx

set_option maxHeartbeats 2000000 in
theorem copyStack_any (w : World) (A : Option Addr) (n c : Nat) (vs : List Value) (xss : List (List UInt8)) (hc : Cells w A n vs) (hr : RdL 0 w vs xss) (hn : n ≤ 100000) (hx : ∀ xs ∈ xss, xs.length ≤ 1000000) :
    Calls Tryz.prog 23 #[.slice A n c] w fun e w' => ∃ T vs', e = .returned (.slice (some ⟨T, 0, none⟩) n n) ∧ Cells w' (some ⟨T, 0, none⟩) n vs' ∧ RdL 0 w' vs' xss ∧ Below w.heap.size w w' ∧ w.heap.size ≤ T := by
  obtain ⟨i0, hi, hz0, hz1, hz2⟩ := info_parts info_rows
  obtain ⟨i1, hj, hy0, hy1, hy2⟩ := info_parts info_u8
  have hlen : xss.length = n := by rw [← hr.1, hc.1]
  have hm := run_make (P := Tryz.prog) w 22 24 i0 (.slice none 0 0) Tryz.underlying22 hi hz0 .i64 .i64 (n : Int) (n : Int) (by omega) (Int.le_refl _) (by rw [hz2]; omega) (by omega)
  rw [hz1, Int.toNat_natCast, Nat.mul_one] at hm
  have hms : (madeCells (Value.slice none 0 0).cells n).size = n := size_madeCells _ _
  generalize madeCells (Value.slice none 0 0).cells n = mc at hm hms
  have HC := Lib.hid hc
  have HR := Lib.hid hr
  have HX := Lib.hid hx
  clear hc hr hx hi hz0 hz1 hz2
  go_enter Tryz.func23, Tryz.ntmps23
  go_wp2
  have hT := Blk.new w 24 mc
  have hB1 : Below w.heap.size w (w.alloc (.cells mc 24)) := (Below.refl _ _).alloc (Nat.le_refl _) _
  have HT := Lib.hid hT
  have HB1 := Lib.hid hB1
  clear hT hB1 hm
  generalize hTT : w.heap.size = T at HT ⊢
  go_loopg [10, 4] (n + 1) (fun k s10 s4 wx => CsRel w T n xss k s10 s4 wx)
  case atStart => exact ⟨0, mc, [], rfl, Nat.zero_le _, rfl, HT.out, hms, rfl, fun j u h => by simp at h, RdL.nil, HB1.out⟩
  case round =>
    obtain ⟨i, csi, vs', rfl, hin, rfl, hblk, hsz, hvl, hval, hrd, hbel⟩ := hrel
    have hTl := hblk.lt
    have HK := Lib.hid hblk
    have HV := Lib.hid hval
    have HD := Lib.hid hrd
    have HB := Lib.hid hbel
    clear hblk hval hrd hbel
    by_cases h0 : i = n
    · subst h0
      have hd : decide ((i : Int) < i) = false := by simp
      have ht : xss.take i = xss := List.take_of_length_le (by omega)
      go_wp2
      go_ret
      refine ⟨T, vs', rfl, ⟨hvl, fun _ => ⟨T, 0, rfl, fun j u hu => ?_⟩⟩, by rw [← ht]; exact HD.out, HB.out, by omega⟩
      rw [HK.out.cell, Nat.zero_add]
      exact HV.out j u hu
    · have h1 : (i : Int) < (n : Int) := by omega
      have h2 : (0 : Int) ≤ (i : Int) := by omega
      have h3 : i < n := by omega
      obtain ⟨b, o, rfl, hcells⟩ := HC.out.2 (by omega)
      obtain ⟨v, hv⟩ : ∃ v, vs[i]? = some v := ⟨vs[i]'(by rw [HC.out.1]; omega), List.getElem?_eq_getElem _⟩
      obtain ⟨xs, hxs⟩ : ∃ xs, xss[i]? = some xs := ⟨xss[i]'(by omega), List.getElem?_eq_getElem _⟩
      have hvr := HR.out.2 i v xs hv hxs
      obtain ⟨Av, cv, rfl, hcv⟩ := hvr.slice
      have hbw : b < w.heap.size := World.block_lt_of_cell? w _ (hcells i _ hv)
      have hxl : xs.length ≤ 1000000 := HX.out xs (List.mem_of_getElem? hxs)
      have hmL := run_make (P := Tryz.prog) wr 24 5 i1 (.int .u8 0) Tryz.underlying24 hj hy0 .i64 .i64 (xs.length : Int) (xs.length : Int) (by omega) (Int.le_refl _) (by rw [hy2]; omega) (by omega)
      rw [hy1, Int.toNat_natCast, Nat.mul_one] at hmL
      have hmLs : (madeCells (Value.int .u8 0).cells xs.length).size = xs.length := size_madeCells _ _
      generalize madeCells (Value.int .u8 0).cells xs.length = mL at hmL hmLs
      have hcl := cell_keep HB.out (hcells i _ hv)
      have HCL := Lib.hid (hcells i _ hv)
      have hba : Below wr.heap.size wr (wr.alloc (.cells mL 5)) := (Below.refl _ _).alloc (Nat.le_refl _) _
      have hTa := HK.out.below hba hTl
      have hfz := hTa.frozen i
      obtain ⟨u, hu⟩ : ∃ u, (wr.alloc (.cells mL 5)).cell? ⟨T, i, none⟩ = some u := ⟨csi[i]'(by omega), (hTa.cell i).trans (Array.getElem?_eq_getElem _)⟩
      have hT0 : w.heap.size ≤ T := Nat.le_of_eq hTT
      obtain ⟨dv, hdv⟩ : ∃ dv : Value, dv = .slice (some ⟨wr.heap.size, 0, none⟩) xs.length xs.length := ⟨_, rfl⟩
      have hs1 : (wr.setCell ⟨T, i, none⟩ dv).heap.size = wr.heap.size := by simp [World.setCell]
      have hT2 := (HK.out.set_ i dv).alloc (.cells mL 5)
      have hD2 := Blk.new (wr.setCell ⟨T, i, none⟩ dv) 5 mL
      rw [hs1] at hD2
      have hB1' : Below w.heap.size w (wr.setCell ⟨T, i, none⟩ dv) := HB.out.setCell (p := ⟨T, i, none⟩) hT0 _
      have hB2 : Below w.heap.size w ((wr.setCell ⟨T, i, none⟩ dv).alloc (.cells mL 5)) := hB1'.alloc hB1'.size _
      have hF2 : Fm (M1 T) wr ((wr.setCell ⟨T, i, none⟩ dv).alloc (.cells mL 5)) := ((Fm.refl _ _).set1 i dv).alloc _
      subst hdv
      have HT2 := Lib.hid hT2
      have HD2 := Lib.hid hD2
      have HB2 := Lib.hid hB2
      have HF2 := Lib.hid hF2
      have HVV := Lib.hid hvr
      have HXS := Lib.hid hxs
      clear hT2 hD2 hB2 hF2 hvr hxs hv hcells hTa hba
      go_wp2_with fail
      have hDw : w.heap.size ≤ wr.heap.size := HB.out.size
      have hDT : wr.heap.size ≠ T := Nat.ne_of_gt hTl
      have hbD : b ≠ wr.heap.size := by omega
      generalize hDe : wr.heap.size = D at *
      generalize (wr.setCell ⟨T, i, none⟩ (.slice (some ⟨D, 0, none⟩) xs.length xs.length)).alloc (.cells mL 5) = W2 at *
      have s1 : W2.drew.cell? ⟨T, i, none⟩ = some (.slice (some ⟨D, 0, none⟩) xs.length xs.length) := by
        have := HT2.out.cell i
        rw [Array.getElem?_setIfInBounds, if_pos rfl, if_pos (by omega)] at this
        exact this
      have s2 : W2.drew.cell? ⟨b, o + i, none⟩ = some (.slice Av xs.length cv) := show W2.cell? ⟨b, o + i, none⟩ = _ from cell_keep HB2.out HCL.out
      refine wp_region_held_drew (S := fun w' => w'.cell? ⟨T, i, none⟩ = some (.slice (some ⟨D, 0, none⟩) xs.length xs.length) ∧ w'.cell? ⟨b, o + i, none⟩ = some (.slice Av xs.length cv)) (by kernel_rfl) ⟨s1, s2⟩ (fun hHeld => ?_)
      refine held_take 0 22 (.slice (some ⟨T, 0, none⟩) n n) rfl rfl (by kernel_rfl) (by kernel_rfl) (by kernel_rfl) (fun _ _ _ h => h) (Or.inl ⟨wanted_plain rfl _, fun w hSw => by kernel_rfl⟩) (by assumption) ?_
      simp only [List.set_cons_zero, List.set_cons_succ]
      refine held_take 1 23 (.int .i64 i) rfl rfl (by kernel_rfl) (by kernel_rfl) (by kernel_rfl) (fun _ _ _ h => h) (Or.inl ⟨wanted_plain rfl _, fun w hSw => by kernel_rfl⟩) (by assumption) ?_
      simp only [List.set_cons_zero, List.set_cons_succ]
      refine held_take 2 24 (.pointer (some ⟨T, i, none⟩)) rfl rfl (by kernel_rfl) (by kernel_rfl) (by kernel_rfl) (fun _ _ _ h => h) (Or.inl ⟨wanted_plain rfl _, fun w hSw => by (obtain ⟨g1, g2⟩ := hSw; go_simp)⟩) (by assumption) ?_
      simp only [List.set_cons_zero, List.set_cons_succ]
      refine held_take 3 25 (.slice (some ⟨D, 0, none⟩) xs.length xs.length) rfl rfl (by kernel_rfl) (by kernel_rfl) (by kernel_rfl) (fun _ _ _ h => h) (Or.inl ⟨wanted_plain rfl _, fun w hSw => exec_load 24 (.tmp 24) rfl rfl (by (obtain ⟨g1, g2⟩ := hSw; go_simp))⟩) (by assumption) ?_
      simp only [List.set_cons_zero, List.set_cons_succ]
      refine held_take 4 26 (.slice (some ⟨D, 0, none⟩) xs.length xs.length) rfl rfl (by kernel_rfl) (by kernel_rfl) (by kernel_rfl) (fun _ _ _ h => h) (Or.inl ⟨wanted_plain rfl _, fun w hSw => exec_slice 24 (.tmp 25) rfl rfl (slice_all w _ _ _)⟩) (by assumption) ?_
      simp only [List.set_cons_zero, List.set_cons_succ]
      refine held_take 5 27 (.slice (some ⟨b, o, none⟩) n c) rfl rfl (by kernel_rfl) (by kernel_rfl) (by kernel_rfl) (fun _ _ _ h => h) (Or.inl ⟨wanted_plain rfl _, fun w hSw => by kernel_rfl⟩) (by assumption) ?_
      simp only [List.set_cons_zero, List.set_cons_succ]
      refine held_take 6 28 (.int .i64 i) rfl rfl (by kernel_rfl) (by kernel_rfl) (by kernel_rfl) (fun _ _ _ h => h) (Or.inl ⟨wanted_plain rfl _, fun w hSw => by kernel_rfl⟩) (by assumption) ?_
      simp only [List.set_cons_zero, List.set_cons_succ]
      refine held_take 7 29 (.pointer (some ⟨b, o + i, none⟩)) rfl rfl (by kernel_rfl) (by kernel_rfl) (by kernel_rfl) (fun _ _ _ h => h) (Or.inl ⟨wanted_plain rfl _, fun w hSw => by (obtain ⟨g1, g2⟩ := hSw; go_simp)⟩) (by assumption) ?_
      simp only [List.set_cons_zero, List.set_cons_succ]
      refine held_take 8 30 (.slice Av xs.length cv) rfl rfl (by kernel_rfl) (by kernel_rfl) (by kernel_rfl) (fun _ _ _ h => h) (Or.inl ⟨wanted_plain rfl _, fun w hSw => exec_load 24 (.tmp 29) rfl rfl (by (obtain ⟨g1, g2⟩ := hSw; go_simp))⟩) (by assumption) ?_
      simp only [List.set_cons_zero, List.set_cons_succ]
      refine held_take 9 31 (.slice Av xs.length cv) rfl rfl (by kernel_rfl) (by kernel_rfl) (by kernel_rfl) (fun _ _ _ h => h) (Or.inl ⟨wanted_plain rfl _, fun w hSw => exec_slice 24 (.tmp 30) rfl rfl (slice_all w _ _ _)⟩) (by assumption) ?_
      simp only [List.set_cons_zero, List.set_cons_succ]
      have hsrc : Rd 0 W2.drew (.slice Av xs.length cv) xs := show Rd 0 W2 _ _ from HVV.out.below HB2.out
      obtain ⟨W3, cs3, hrun, hD3, hrd3, hf3⟩ := copy_bytes W2.drew D xs.length cv Av mL xs HD2.out hmLs rfl (Cells.of_rd hsrc)
      have hT3 := (HT2.out.drew).fm hf3 (show ¬ M1 D T from Ne.symm hDT)
      have hF3 : Fm (M1 T) wr W3 := (HF2.out.drew).trans' hf3 (fun j hj h => by have h' : j = D := h; omega)
      have hR3 : RdL 0 W3 vs' (xss.take i) := HD.out.fm hF3 (Its.m1 HK.out (by decide) (Nat.zero_le _))
      have hB3 : Below w.heap.size w W3 := ⟨hf3.os.trans HB2.out.os, hf3.tape.trans HB2.out.tape, hf3.output.trans HB2.out.output, Nat.le_trans HB2.out.size hf3.size, fun j hj => (hf3.block j (Nat.lt_of_lt_of_le hj HB2.out.size) (fun h => by have h' : j = D := h; omega)).trans (HB2.out.block j hj)⟩
      refine wpAnyH_ready (rs := [10]) (by kernel_rfl) (by simp) ?_
      refine AllReadyH.cons (o := _) rfl (fun K hK => ?_) AllReadyH.nil
      refine step_val 32 rfl rfl (exec_copy (.tmp 26) (.tmp 31) 24 24 rfl rfl rfl hrun) ?_
      refine hK.out _ _ ⟨?_, cell_keep hB3 (a := ⟨b, o + i, none⟩) HCL.out⟩ (fun hHeld => ?_)
      · rw [hT3.cell, Array.getElem?_setIfInBounds, if_pos rfl, if_pos (by omega)]
      clear hK K
      simp only [List.set_cons_zero, List.set_cons_succ]
      refine wpAnyH_done (by kernel_rfl) ?_ _
      have HT3 := Lib.hid hT3
      have HR3 := Lib.hid hR3
      have HB3 := Lib.hid hB3
      have HE3 := Lib.hid hrd3
      clear hT3 hR3 hB3 hrd3 hf3 hF3 hD3 hrun hsrc s1 s2 hHeld
      go_wp2_with fail
      have hw2 : (i : Int) + 1 = ((i + 1 : Nat) : Int) := by omega
      go_roundg (n - (i + 1) + 1)
      case measure => omega
      case rel =>
        refine ⟨i + 1, _, vs' ++ [.slice (some ⟨D, 0, none⟩) xs.length xs.length], rfl, by omega, ?_, HT3.out, by simp [hsz], by simp [hvl], fun j u hj => ?_, ?_, HB3.out⟩
        · rw [← hw2]
        · rw [List.getElem?_append] at hj
          rw [Array.getElem?_setIfInBounds]
          split at hj
          · rw [if_neg (by omega)]
            exact HV.out j u hj
          · by_cases hji : i = j
            · subst hji
              rw [hvl, Nat.sub_self] at hj
              simp at hj
              rw [if_pos rfl, if_pos (by omega), hj]
            · rw [List.getElem?_eq_none (by simp; omega)] at hj
              cases hj
        · have ht : xss.take (i + 1) = xss.take i ++ [xs] := by rw [List.take_add_one, HXS.out]; rfl
          rw [ht]
          exact RdL.snoc HR3.out HE3.out
end Go.Proofs.YtafpgikhcjildaaGreatDoor
