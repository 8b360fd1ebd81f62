/- Lists of lists of bytes: copied. The stack handed out, whatever lies on it. A copy of a stack, whatever lies on it. SHA-256: the digest's cells. -/
import Derived.Test.YtkgihpebghmnbaaGreatDoorG07
import Derived.Deep.LoopGhost
import Derived.LoopTactic
import Derived.Laws.MakeOwn
import Derived.Laws.CopyRow
import Derived.Laws.IdiomCopy
import Derived.Test.YtkgihpebghmnbaaGreatDoorSha
namespace Go.Proofs.YtkgihpebghmnbaaGreatDoor
open Go.RowKit Go.Proofs

set_option maxRecDepth 100000

theorem rdl_grown {w w' : World} {base n : Nat} {v : Value} {vs xs : List Value} {xss : List (List UInt8)} (h : RdL 0 w vs xss) (ho : w.ownsRow base 30 1 v n xs) (hg : w.grownBy w' v.ownBlock) : RdL 0 w' vs xss := by
  refine h.fm (M := fun k => v.ownBlock = some k) (Fm.grown (Fm.refl _ _) hg (fun k _ h => h)) fun k hk hm => ⟨Nat.zero_le _, ?_⟩
  rcases ho.2 with ⟨rfl, _⟩ | ⟨g', cap, cur, rfl, hbg, hgg, _⟩
  · simp [Value.ownBlock] at hm
  · have : g' = k := by simpa [Value.ownBlock] using hm
    subst this
    exact ⟨cur, _, (0, 0), hgg, by decide⟩

theorem cell_keep {w w' : World} {a : Addr} {u : Value} (h : Below w.heap.size w w') (hc : w.cell? a = some u) : w'.cell? a = some u :=
  (World.cell?_of_block (w := w) (h.block a.block (World.block_lt_of_cell? w _ hc))).trans hc

/-- The loop's relation. -/
def CpRel (w : World) (n : Nat) (xss : List (List UInt8)) (k : Nat) (s3 s4 : Value) (wx : World) : Prop :=
  ∃ (i : Nat) (A : Option Addr) (c : Nat) (vs' : List Value), k = n - i + 1 ∧ i ≤ n ∧ s3 = .slice A i c ∧ s4 = .int .i64 i ∧ wx.ownsRow w.heap.size 30 1 (.slice A i c) i vs' ∧ RdL 0 wx vs' (xss.take i) ∧ Below w.heap.size w wx

set_option maxHeartbeats 1000000 in
theorem copies_any (w : World) (B : Nat) (A : Option Addr) (n c : Nat) (vs : List Value) (xss : List (List UInt8)) (hc : Cells w A n vs) (hr : RdL B w vs xss) (hn : n ≤ 1000000) (hx : ∀ xs ∈ xss, xs.length ≤ 1000000) :
    Calls Tryz.prog 24 #[.slice A n c] w fun e w' => ∃ A' c' vs', e = .returned (.slice A' n c') ∧ w'.ownsRow w.heap.size 30 1 (.slice A' n c') n vs' ∧ RdL 0 w' vs' xss ∧ Below w.heap.size w w' := by
  obtain ⟨i0, hi, hz0, hz1, hz2⟩ := info_parts info_rows
  have hlen : xss.length = n := by rw [← hr.1, hc.1]
  have HC := Lib.hid hc
  have HR := Lib.hid hr
  have HX := Lib.hid hx
  clear hc hr hx
  go_enter Tryz.func24, Tryz.ntmps24
  go_wp2
  go_loopg [3, 4] (n + 1) (fun k s3 s4 wx => CpRel w n xss k s3 s4 wx)
  case atStart => exact ⟨0, none, 0, [], by simp, Nat.zero_le _, rfl, rfl, ⟨rfl, .inl ⟨rfl, rfl⟩⟩, RdL.nil, Below.refl _ _⟩
  case round =>
    obtain ⟨i, A1, c1, vs', rfl, hin, rfl, rfl, hown, hrd, hbel⟩ := hrel
    have HO := Lib.hid hown
    have HD := Lib.hid hrd
    have HB := Lib.hid hbel
    clear hown hrd hbel
    by_cases h0 : i = n
    · subst h0
      have ht : xss.take i = xss := List.take_of_length_le (by omega)
      have hd : decide ((i : Int) < i) = false := by simp
      go_wp2
      go_ret
      exact ⟨_, _, vs', rfl, HO.out, by rw [← ht]; exact HD.out, HB.out⟩
    · have h1 : (i : Int) < (n : Int) := by omega
      have h2 : (0 : Int) ≤ (i : Int) := by omega
      obtain ⟨b, o, rfl, hcells⟩ := HC.out.2 (by omega)
      obtain ⟨v, hv⟩ : ∃ v, vs[i]? = some v := ⟨vs[i]'(by rw [HC.out.1]; omega), List.getElem?_eq_getElem _⟩
      obtain ⟨xs, hxs⟩ : ∃ xs, xss[i]? = some xs := ⟨xss[i]'(by omega), List.getElem?_eq_getElem _⟩
      have hvr := HR.out.2 i v xs hv hxs
      have hcl := cell_keep HB.out (hcells i v hv)
      have hvr' : Rd B wr v xs := hvr.below HB.out
      obtain ⟨Av, cv, rfl, hcv⟩ := hvr'.slice
      have hxl : xs.length ≤ 1000000 := HX.out xs (List.mem_of_getElem? hxs)
      have HV := Lib.hid hvr'
      have HXS := Lib.hid hxs
      clear hvr hvr' hcells hv
      go_wp2_with fail
      refine (copied_any wr B xs.length cv Av xs HV.out (by omega)).mono ?_
      rintro e w1 ⟨A2, c2, rfl, ho2, hb2⟩
      have hrd2 := Lib.hid (Rd.of_own (B := 0) ho2 (by decide))
      have HB2 := Lib.hid (Below.trans (HB.out) (Below.mono hb2 HB.out.size))
      have HO2 := Lib.hid (own_below HO.out hb2)
      have HD2 := Lib.hid (HD.out.below hb2)
      clear ho2 hb2 HO HD
      go_wp2_with (at_builtin; refine Stop.mk ?_)
      refine Stop.go ?_
      have hba : Below w1.heap.size w1 (w1.alloc (.cells #[.slice A2 xs.length c2] 30)) := (Below.refl _ _).alloc (Nat.le_refl _) _
      have hsz := HB2.out.size
      refine wpList_append_cells _ rfl (.tmp 11) (.tmp 17) 41 rfl w.heap.size 30 i0 _ 24 Tryz.underlying41 hi hz0 hz1 hz2 rfl (.slice A1 i c1) i vs' rfl (own_below HO2.out hba) (some ⟨w1.heap.size, 0, none⟩) 1 1 [.slice A2 xs.length c2] rfl (Cells.one w1 _ _) (by intro u hu; simp at hu; subst hu; rfl) (by omega) (by omega) (by simp; omega) ?_
      intro v' w2 hown' hgrow hat
      obtain ⟨A3, c3, rfl⟩ := own_form hown'
      have HD3 := Lib.hid (rdl_grown (HD2.out.below hba) (own_below HO2.out hba) hgrow)
      have HE3 := Lib.hid (rdl_grown (vs := [.slice A2 xs.length c2]) (xss := [xs]) (RdL.below (RdL.snoc RdL.nil hrd2.out) hba) (own_below HO2.out hba) hgrow)
      have HB3 := Lib.hid ((HB2.out.alloc hsz _).grown hgrow (by simp; omega) (fun k hk => ((own_below HO2.out hba).lt k hk).1))
      have HO3 := Lib.hid hown'
      clear hown' hgrow hat hba
      go_wp2_with fail
      have hw1 : (i : Int) + 1 = ((i + 1 : Nat) : Int) := by omega
      go_roundg (n - (i + 1) + 1)
      case measure => omega
      case rel =>
        refine ⟨i + 1, A3, c3, vs' ++ [.slice A2 xs.length c2], rfl, by omega, rfl, ?_, HO3.out, ?_, HB3.out⟩
        · rw [← hw1]
        · have ht : xss.take (i + 1) = xss.take i ++ [xs] := by rw [List.take_add_one, HXS.out]; rfl
          rw [ht]
          exact RdL.snoc HD3.out (HE3.out.2 0 _ _ rfl rfl)
end Go.Proofs.YtkgihpebghmnbaaGreatDoor

namespace Go.Proofs.YtkgihpebghmnbaaGreatDoor
open Go.RowKit Go.Proofs

set_option maxRecDepth 100000

theorem peekI_any (w : World) (b o t base n i : Nat) (cs : Array Value) (A : Option Addr) (c : Nat) (items : List Value) (Ax : Option Addr) (nx cx : Nat)
    (hB : Blk w b t cs) (hv : cs[o]? = some (.slice A n c)) (hown : w.ownsRow base 30 1 (.slice A n c) n items) (hi : i < n) (hn : n ≤ 100000) (hx : items[n - 1 - i]? = some (.slice Ax nx cx)) :
    Calls Tryz.prog 65 #[.pointer (some ⟨b, o, none⟩), .int .i32 i] w fun e w' => e = .returned (.tuple #[.slice Ax nx cx, .nilIface]) ∧ w = w' := by
  obtain ⟨g, cap, hform, hbg, hlt⟩ := hown.form (by omega)
  injection hform with e1 e2 e3
  subst e1
  obtain ⟨j, hj⟩ : ∃ j, n - 1 - i = j := ⟨_, rfl⟩
  rw [hj] at hx
  have hxc : w.cell? ⟨g, j, none⟩ = some (.slice Ax nx cx) := by
    have := hown.cells (g := g) rfl j (.slice Ax nx cx) hx
    rwa [addr_add, Nat.zero_add] at this
  have hc := (hB.cell o).trans hv
  clear hB hown hv
  obtain ⟨ni, hni⟩ : ∃ ni : Int, (n : Int) = ni := ⟨_, rfl⟩
  obtain ⟨ii, hii⟩ : ∃ ii : Int, (i : Int) = ii := ⟨_, rfl⟩
  have hji : ni - ii - 1 = (j : Int) := by omega
  have h1 : (0 : Int) ≤ (j : Int) := by omega
  have h2 : (j : Int) < ni := by omega
  have h3 : ¬ (ii < 0) := by omega
  have h4 : ¬ (ni ≤ ii) := by omega
  have h5 : ni ≤ 100000 := by omega
  have h6 : 0 ≤ ii := by omega
  have h7 : j < n := by omega
  have hw1 : IntKind.i32.wrap ni = ni := by simp only [IntKind.wrap_i32]; omega
  have hw2 : IntKind.i32.wrap (ni - ii) = ni - ii := by simp only [IntKind.wrap_i32]; omega
  have hw3 : IntKind.i32.wrap (j : Int) = j := by simp only [IntKind.wrap_i32]; omega
  rw [hii]
  go_enter Tryz.func65, Tryz.ntmps65
  go_wp2
  go_ret2
  exact ⟨rfl, rfl⟩

/-- The loop's relation: from the end on the row holds the stack's elements. -/
def GsRel (w : World) (T n : Nat) (items : List Value) (k : Nat) (s10 _s4 : Value) (wx : World) : Prop :=
  ∃ (i : Nat) (cs : Array Value), k = n - i + 1 ∧ i ≤ n ∧ s10 = .int .i64 i ∧ Blk wx T 30 cs ∧ cs.size = n ∧ (∀ j, n - i ≤ j → j < n → cs[j]? = items[j]?) ∧ Below w.heap.size w wx

set_option maxHeartbeats 1000000 in
theorem getStack_any (w : World) (g B o : Nat) (cs : Array Value) (xss : List (List UInt8)) (items : List Value) (A : Option Addr) (c : Nat) (hblk : Blk w g 111 cs) (h23 : cs[o]? = some (.slice A xss.length c)) (hown : w.ownsRow B 30 1 (.slice A xss.length c) xss.length items) (hrdl : RdL 0 w items xss) (hn : xss.length ≤ 100000) :
    Calls Tryz.prog 37 #[.pointer (some ⟨g, o, none⟩)] w fun e w' => ∃ T, e = .returned (.slice (some ⟨T, 0, none⟩) xss.length xss.length) ∧ Cells w' (some ⟨T, 0, none⟩) xss.length items ∧ RdL 0 w' items xss ∧ Below w.heap.size w w' := by
  obtain ⟨n, hln⟩ : ∃ n, xss.length = n := ⟨_, rfl⟩
  rw [hln] at h23 hown hn ⊢
  obtain ⟨i0, hi, hz0, hz1, hz2⟩ := info_parts info_rows
  have hil : items.length = n := by have := hown.1; simpa using this
  have hm := run_make (P := Tryz.prog) w 41 30 i0 (.slice none 0 0) Tryz.underlying41 hi hz0 .i32 .i32 (n : Int) (n : Int) (by omega) (Int.le_refl _) (by rw [hz2]; omega) (by omega)
  rw [hz1, Int.toNat_natCast, Nat.mul_one] at hm
  have hms : (madeCells (Value.slice none 0 0).cells n).size = n := size_madeCells _ _
  generalize madeCells (Value.slice none 0 0).cells n = mc at hm hms
  have HBLK := Lib.hid hblk
  have H23 := Lib.hid h23
  have HOWN := Lib.hid hown
  have HRDL := Lib.hid hrdl
  have HD := Lib.hid (depth_any w g o n c A (by omega) ((hblk.cell o).trans h23))
  clear hblk h23 hown hrdl hi hz0 hz1 hz2
  go_enter Tryz.func37, Tryz.ntmps37
  go_wp2_with fail
  refine HD.out.mono ?_
  rintro e w1 ⟨rfl, rfl⟩
  go_wp2
  have hT := Blk.new w 30 mc
  have hB1 : Below w.heap.size w (w.alloc (.cells mc 30)) := (Below.refl _ _).alloc (Nat.le_refl _) _
  have HT := Lib.hid hT
  have HB1 := Lib.hid hB1
  clear hT hB1 hm
  have hTw : Hid (w.heap.size ≤ w.heap.size) := Nat.le_refl _
  generalize hTT : w.heap.size = T at HT ⊢
  go_loopg [10, 4] (n + 1) (fun k s10 s4 wx => GsRel w T n items k s10 s4 wx)
  case atStart => exact ⟨0, mc, rfl, Nat.zero_le _, rfl, HT.out, hms, fun j h1 h2 => by omega, HB1.out⟩
  case round =>
    obtain ⟨i, csi, rfl, hin, rfl, hblk, hsz, hval, hbel⟩ := hrel
    have hlt := hblk.lt
    have HK := Lib.hid hblk
    have HV := Lib.hid hval
    have HB := Lib.hid hbel
    clear hblk hval hbel
    by_cases h0 : i = n
    · subst h0
      have hd : decide ((i : Int) < i) = false := by simp
      go_wp2
      go_ret
      refine ⟨T, rfl, ⟨hil, fun _ => ⟨T, 0, rfl, fun j u hu => ?_⟩⟩, HRDL.out.below HB.out, HB.out⟩
      rw [HK.out.cell, Nat.zero_add, HV.out j (by omega) (by have := (List.getElem?_eq_some_iff.1 hu).1; omega)]
      exact hu
    · obtain ⟨j, hj⟩ : ∃ j, n - 1 - i = j := ⟨_, rfl⟩
      obtain ⟨v, hv⟩ : ∃ v, items[j]? = some v := ⟨items[j]'(by omega), List.getElem?_eq_getElem _⟩
      obtain ⟨xs, hxs⟩ : ∃ xs, xss[j]? = some xs := ⟨xss[j]'(by omega), List.getElem?_eq_getElem _⟩
      obtain ⟨Av, cv, rfl, hcv⟩ := (HRDL.out.2 j v xs hv hxs).slice
      have HP := Lib.hid (peekI_any wr g o _ B n i cs A c items Av xs.length cv (HBLK.out.below HB.out HBLK.out.lt) H23.out (own_below HOWN.out HB.out) (by omega) hn (by rw [hj]; exact hv))
      have HVJ := Lib.hid hv
      clear hv
      have h1 : (i : Int) < (n : Int) := by omega
      have h2 : (0 : Int) ≤ (i : Int) := by omega
      have hn1 : (n : Int) ≤ 100000 := by omega
      have hw1 : IntKind.i32.wrap (i : Int) = i := by simp only [IntKind.wrap_i32]; omega
      have hji : (n : Int) - (i : Int) - 1 = (j : Int) := by omega
      have hj0 : (0 : Int) ≤ (j : Int) := by omega
      have hj1 : (j : Int) < (n : Int) := by omega
      have hj2 : j < n := by omega
      have hfz := HK.out.frozen j
      have hcl : ∃ u, wr.cell? ⟨T, j, none⟩ = some u := ⟨csi[j]'(by omega), (HK.out.cell j).trans (Array.getElem?_eq_getElem _)⟩
      obtain ⟨u, hcl⟩ := hcl
      go_wp2_with fail
      refine HP.out.mono ?_
      rintro e w1 ⟨rfl, rfl⟩
      go_wp2_with fail
      have hw2 : (i : Int) + 1 = ((i + 1 : Nat) : Int) := by omega
      go_roundg (n - (i + 1) + 1)
      case measure => omega
      case rel =>
        have hT0 : w.heap.size ≤ T := Nat.le_of_eq hTT
        refine ⟨i + 1, csi.setIfInBounds j (.slice Av xs.length cv), rfl, by omega, ?_, HK.out.set_ j _, by simp [hsz], fun l h3 h4 => ?_, HB.out.setCell (p := ⟨T, j, none⟩) hT0 _⟩
        · rw [← hw2]
        · rw [Array.getElem?_setIfInBounds]
          by_cases hl : j = l
          · subst hl
            rw [if_pos rfl, if_pos (by omega), HVJ.out]
          · rw [if_neg hl]
            exact HV.out l (by omega) h4
end Go.Proofs.YtkgihpebghmnbaaGreatDoor

namespace Go.Proofs.YtkgihpebghmnbaaGreatDoor
open Go.RowKit Go.Proofs

set_option maxRecDepth 100000

theorem cBlk_setRow {w : World} {g : Nat} {t : TypeId} {cs : Array Value} (h : Blk w g t cs) (cs' : Array Value) : Blk (w.setRow g cs') g t cs' := setRow_heap w g cs cs' t (0, 0) h
theorem cFm_setRow {w w' : World} {g : Nat} (h : Fm (M1 g) w w') (cs : Array Value) : Fm (M1 g) w (w'.setRow g cs) :=
  ⟨h.os, h.tape, h.output, by simpa [World.setRow] using h.size, fun k hk hn => by
    have : k ≠ g := hn
    rw [← h.block k hk hn]
    simp only [World.setRow, Array.getElem?_modify]
    rw [if_neg (Ne.symm this)]⟩
theorem info_u8s : (Tryz.prog.info? 5).map (·.size) = some 1 := by kernel_rfl

theorem slice_all (w : World) (A : Option Addr) (n c : Nat) : (Instr.sliceAt 30 (.slice A n c) none none none).run Tryz.prog w = .ok (.slice A n c) w := by
  have hs : ∀ w, (sizeOf 5).run Tryz.prog w = .ok 1 w := fun w => by kernel_rfl
  have hA : A.map (fun a => a.add (0 * 1)) = A := by
    cases A with
    | none => rfl
    | some a => simp [Addr.add]
  have hA' : A.map (fun a => a.add 0) = A := by simpa using hA
  simp [Instr.sliceAt, Instr.slice, Instr.sliceBounds, run_underlying Tryz.underlying30, hs, hA']
theorem exec_slice {P : Program} {ρ : Operand → Value} {o : Oper} {w : World} (ty : TypeId) (x : Operand) {v u : Value} (ho : o.op = .slice ty x none none none) (hx : ρ x = v) (hr : (Instr.sliceAt ty v none none none).run P w = .ok u w) : (execOp ρ o).run P w = .ok (.value u) w := by
  unfold execOp
  simp only [ho, hx, Option.map_none, Sem.run_bind, Sem.run_pure, Result.andThen_ok, hr]
theorem exec_copy {P : Program} {ρ : Operand → Value} {o : Oper} {w w' : World} (x y : Operand) (t t' : TypeId) {a b u : Value} (ho : o.op = .call { callee := .builtin .copy, args := #[x, y], argTypes := #[t, t'] }) (hx : ρ x = a) (hy : ρ y = b)
    (hr : (Builtin.copy_ #[t, t'] o.type #[a, b]).run P w = .ok u w') : (execOp ρ o).run P w = .ok (.value u) w' := by
  unfold execOp
  simp only [ho, resolve, invoke, builtin, Sem.run_bind, Sem.run_pure, Result.andThen_ok, List.map_toArray, List.map_cons, List.map_nil, hx, hy, hr]

/-- Bytes copied over a row of as many cells. -/
theorem copy_bytes (w : World) (D L cv : Nat) (A : Option Addr) (mc : Array Value) (xs : List UInt8) (hD : Blk w D 5 mc) (hm : mc.size = L) (hl : xs.length = L) (hc : Cells w A L (bv xs)) :
    ∃ w' cs', (Builtin.copy_ #[30, 30] 3 #[.slice (some ⟨D, 0, none⟩) L L, .slice A L cv]).run Tryz.prog w = .ok (goInt L) w' ∧ Blk w' D 5 cs' ∧ Rd 0 w' (.slice (some ⟨D, 0, none⟩) L L) xs ∧ Fm (M1 D) w w' := by
  rcases Nat.eq_zero_or_pos L with h0 | h0
  · subst h0
    refine ⟨w, mc, ?_, hD, ?_, Fm.refl _ _⟩
    · exact run_copy_none w 30 30 3 5 _ _ 0 0 0 cv Tryz.underlying30 info_u8s (by simp)
    · have : xs = [] := List.eq_nil_of_length_eq_zero hl
      subst this
      exact Rd.nil _ _ _ _
  · obtain ⟨b, o, rfl, hcell⟩ := hc.2 h0
    have hbl : (bv xs).length = L := by rw [bv_length]; exact hl
    have hrun := run_copy_row (P := Tryz.prog) w 30 30 3 5 D 0 L L ⟨b, o, none⟩ L cv mc 5 (bv xs) Tryz.underlying30 info_u8s hD (by rw [hbl]; simp) (fun j v hv => by rw [addr_add]; exact hcell j v hv) (by omega) (by
      intro u hu
      simp only [bv, List.mem_map] at hu
      obtain ⟨x, _, rfl⟩ := hu
      rfl)
    have hrow : (mc.toList.take 0 ++ bv xs ++ mc.toList.drop (0 + (bv xs).length)).toArray = (bv xs).toArray := by
      rw [List.drop_eq_nil_of_le (by rw [hbl]; simp [hm])]
      simp
    rw [hrow, hbl] at hrun
    refine ⟨_, _, hrun, cBlk_setRow hD _, ?_, cFm_setRow (Fm.refl _ _) _⟩
    refine ⟨some ⟨D, 0, none⟩, L, by rw [hl], by omega, fun _ => ⟨D, 0, _, _, _, rfl, cBlk_setRow hD _, .inr (by decide), fun j u hj => ?_⟩⟩
    rw [Nat.zero_add, List.getElem?_toArray, bv_get, hj]
    rfl

/-- The loop's relation. -/
def CsRel (w : World) (T n : Nat) (xss : List (List UInt8)) (k : Nat) (s10 _s4 : Value) (wx : World) : Prop :=
  ∃ (i : Nat) (cs : Array Value) (vs' : List Value), k = n - i + 1 ∧ i ≤ n ∧ s10 = .int .i64 i ∧ Blk wx T 30 cs ∧ cs.size = n ∧ vs'.length = i ∧ (∀ (j : Nat) (u : Value), vs'[j]? = some u → cs[j]? = some u) ∧ RdL 0 wx vs' (xss.take i) ∧ Below w.heap.size w wx

set_option maxHeartbeats 2000000 in
theorem copyStack_any (w : World) (A : Option Addr) (n c : Nat) (vs : List Value) (xss : List (List UInt8)) (hc : Cells w A n vs) (hr : RdL 0 w vs xss) (hn : n ≤ 100000) (hx : ∀ xs ∈ xss, xs.length ≤ 1000000) :
    Calls Tryz.prog 34 #[.slice A n c] w fun e w' => ∃ T vs', e = .returned (.slice (some ⟨T, 0, none⟩) n n) ∧ Cells w' (some ⟨T, 0, none⟩) n vs' ∧ RdL 0 w' vs' xss ∧ Below w.heap.size w w' ∧ w.heap.size ≤ T := by
  obtain ⟨i0, hi, hz0, hz1, hz2⟩ := info_parts info_rows
  obtain ⟨i1, hj, hy0, hy1, hy2⟩ := info_parts info_u8
  have hlen : xss.length = n := by rw [← hr.1, hc.1]
  have hm := run_make (P := Tryz.prog) w 41 30 i0 (.slice none 0 0) Tryz.underlying41 hi hz0 .i64 .i64 (n : Int) (n : Int) (by omega) (Int.le_refl _) (by rw [hz2]; omega) (by omega)
  rw [hz1, Int.toNat_natCast, Nat.mul_one] at hm
  have hms : (madeCells (Value.slice none 0 0).cells n).size = n := size_madeCells _ _
  generalize madeCells (Value.slice none 0 0).cells n = mc at hm hms
  have HC := Lib.hid hc
  have HR := Lib.hid hr
  have HX := Lib.hid hx
  clear hc hr hx hi hz0 hz1 hz2
  go_enter Tryz.func34, Tryz.ntmps34
  go_wp2
  have hT := Blk.new w 30 mc
  have hB1 : Below w.heap.size w (w.alloc (.cells mc 30)) := (Below.refl _ _).alloc (Nat.le_refl _) _
  have HT := Lib.hid hT
  have HB1 := Lib.hid hB1
  clear hT hB1 hm
  generalize hTT : w.heap.size = T at HT ⊢
  go_loopg [10, 4] (n + 1) (fun k s10 s4 wx => CsRel w T n xss k s10 s4 wx)
  case atStart => exact ⟨0, mc, [], rfl, Nat.zero_le _, rfl, HT.out, hms, rfl, fun j u h => by simp at h, RdL.nil, HB1.out⟩
  case round =>
    obtain ⟨i, csi, vs', rfl, hin, rfl, hblk, hsz, hvl, hval, hrd, hbel⟩ := hrel
    have hTl := hblk.lt
    have HK := Lib.hid hblk
    have HV := Lib.hid hval
    have HD := Lib.hid hrd
    have HB := Lib.hid hbel
    clear hblk hval hrd hbel
    by_cases h0 : i = n
    · subst h0
      have hd : decide ((i : Int) < i) = false := by simp
      have ht : xss.take i = xss := List.take_of_length_le (by omega)
      go_wp2
      go_ret
      refine ⟨T, vs', rfl, ⟨hvl, fun _ => ⟨T, 0, rfl, fun j u hu => ?_⟩⟩, by rw [← ht]; exact HD.out, HB.out, by omega⟩
      rw [HK.out.cell, Nat.zero_add]
      exact HV.out j u hu
    · have h1 : (i : Int) < (n : Int) := by omega
      have h2 : (0 : Int) ≤ (i : Int) := by omega
      have h3 : i < n := by omega
      obtain ⟨b, o, rfl, hcells⟩ := HC.out.2 (by omega)
      obtain ⟨v, hv⟩ : ∃ v, vs[i]? = some v := ⟨vs[i]'(by rw [HC.out.1]; omega), List.getElem?_eq_getElem _⟩
      obtain ⟨xs, hxs⟩ : ∃ xs, xss[i]? = some xs := ⟨xss[i]'(by omega), List.getElem?_eq_getElem _⟩
      have hvr := HR.out.2 i v xs hv hxs
      obtain ⟨Av, cv, rfl, hcv⟩ := hvr.slice
      have hbw : b < w.heap.size := World.block_lt_of_cell? w _ (hcells i _ hv)
      have hxl : xs.length ≤ 1000000 := HX.out xs (List.mem_of_getElem? hxs)
      have hmL := run_make (P := Tryz.prog) wr 30 5 i1 (.int .u8 0) Tryz.underlying30 hj hy0 .i64 .i64 (xs.length : Int) (xs.length : Int) (by omega) (Int.le_refl _) (by rw [hy2]; omega) (by omega)
      rw [hy1, Int.toNat_natCast, Nat.mul_one] at hmL
      have hmLs : (madeCells (Value.int .u8 0).cells xs.length).size = xs.length := size_madeCells _ _
      generalize madeCells (Value.int .u8 0).cells xs.length = mL at hmL hmLs
      have hcl := cell_keep HB.out (hcells i _ hv)
      have HCL := Lib.hid (hcells i _ hv)
      have hba : Below wr.heap.size wr (wr.alloc (.cells mL 5)) := (Below.refl _ _).alloc (Nat.le_refl _) _
      have hTa := HK.out.below hba hTl
      have hfz := hTa.frozen i
      obtain ⟨u, hu⟩ : ∃ u, (wr.alloc (.cells mL 5)).cell? ⟨T, i, none⟩ = some u := ⟨csi[i]'(by omega), (hTa.cell i).trans (Array.getElem?_eq_getElem _)⟩
      have hT0 : w.heap.size ≤ T := Nat.le_of_eq hTT
      obtain ⟨dv, hdv⟩ : ∃ dv : Value, dv = .slice (some ⟨wr.heap.size, 0, none⟩) xs.length xs.length := ⟨_, rfl⟩
      have hs1 : (wr.setCell ⟨T, i, none⟩ dv).heap.size = wr.heap.size := by simp [World.setCell]
      have hT2 := (HK.out.set_ i dv).alloc (.cells mL 5)
      have hD2 := Blk.new (wr.setCell ⟨T, i, none⟩ dv) 5 mL
      rw [hs1] at hD2
      have hB1' : Below w.heap.size w (wr.setCell ⟨T, i, none⟩ dv) := HB.out.setCell (p := ⟨T, i, none⟩) hT0 _
      have hB2 : Below w.heap.size w ((wr.setCell ⟨T, i, none⟩ dv).alloc (.cells mL 5)) := hB1'.alloc hB1'.size _
      have hF2 : Fm (M1 T) wr ((wr.setCell ⟨T, i, none⟩ dv).alloc (.cells mL 5)) := ((Fm.refl _ _).set1 i dv).alloc _
      subst hdv
      have HT2 := Lib.hid hT2
      have HD2 := Lib.hid hD2
      have HB2 := Lib.hid hB2
      have HF2 := Lib.hid hF2
      have HVV := Lib.hid hvr
      have HXS := Lib.hid hxs
      clear hT2 hD2 hB2 hF2 hvr hxs hv hcells hTa hba
      go_wp2_with fail
      have hDw : w.heap.size ≤ wr.heap.size := HB.out.size
      have hDT : wr.heap.size ≠ T := Nat.ne_of_gt hTl
      have hbD : b ≠ wr.heap.size := by omega
      generalize hDe : wr.heap.size = D at *
      generalize (wr.setCell ⟨T, i, none⟩ (.slice (some ⟨D, 0, none⟩) xs.length xs.length)).alloc (.cells mL 5) = W2 at *
      have s1 : W2.drew.cell? ⟨T, i, none⟩ = some (.slice (some ⟨D, 0, none⟩) xs.length xs.length) := by
        have := HT2.out.cell i
        rw [Array.getElem?_setIfInBounds, if_pos rfl, if_pos (by omega)] at this
        exact this
      have s2 : W2.drew.cell? ⟨b, o + i, none⟩ = some (.slice Av xs.length cv) := show W2.cell? ⟨b, o + i, none⟩ = _ from cell_keep HB2.out HCL.out
      refine wp_region_held_drew (S := fun w' => w'.cell? ⟨T, i, none⟩ = some (.slice (some ⟨D, 0, none⟩) xs.length xs.length) ∧ w'.cell? ⟨b, o + i, none⟩ = some (.slice Av xs.length cv)) (by kernel_rfl) ⟨s1, s2⟩ (fun hHeld => ?_)
      refine held_take 0 22 (.slice (some ⟨T, 0, none⟩) n n) rfl rfl (by kernel_rfl) (by kernel_rfl) (by kernel_rfl) (fun _ _ _ h => h) (Or.inl ⟨wanted_plain rfl _, fun w hSw => by kernel_rfl⟩) (by assumption) ?_
      simp only [List.set_cons_zero, List.set_cons_succ]
      refine held_take 1 23 (.int .i64 i) rfl rfl (by kernel_rfl) (by kernel_rfl) (by kernel_rfl) (fun _ _ _ h => h) (Or.inl ⟨wanted_plain rfl _, fun w hSw => by kernel_rfl⟩) (by assumption) ?_
      simp only [List.set_cons_zero, List.set_cons_succ]
      refine held_take 2 24 (.pointer (some ⟨T, i, none⟩)) rfl rfl (by kernel_rfl) (by kernel_rfl) (by kernel_rfl) (fun _ _ _ h => h) (Or.inl ⟨wanted_plain rfl _, fun w hSw => by (obtain ⟨g1, g2⟩ := hSw; go_simp)⟩) (by assumption) ?_
      simp only [List.set_cons_zero, List.set_cons_succ]
      refine held_take 3 25 (.slice (some ⟨D, 0, none⟩) xs.length xs.length) rfl rfl (by kernel_rfl) (by kernel_rfl) (by kernel_rfl) (fun _ _ _ h => h) (Or.inl ⟨wanted_plain rfl _, fun w hSw => exec_load 30 (.tmp 24) rfl rfl (by (obtain ⟨g1, g2⟩ := hSw; go_simp))⟩) (by assumption) ?_
      simp only [List.set_cons_zero, List.set_cons_succ]
      refine held_take 4 26 (.slice (some ⟨D, 0, none⟩) xs.length xs.length) rfl rfl (by kernel_rfl) (by kernel_rfl) (by kernel_rfl) (fun _ _ _ h => h) (Or.inl ⟨wanted_plain rfl _, fun w hSw => exec_slice 30 (.tmp 25) rfl rfl (slice_all w _ _ _)⟩) (by assumption) ?_
      simp only [List.set_cons_zero, List.set_cons_succ]
      refine held_take 5 27 (.slice (some ⟨b, o, none⟩) n c) rfl rfl (by kernel_rfl) (by kernel_rfl) (by kernel_rfl) (fun _ _ _ h => h) (Or.inl ⟨wanted_plain rfl _, fun w hSw => by kernel_rfl⟩) (by assumption) ?_
      simp only [List.set_cons_zero, List.set_cons_succ]
      refine held_take 6 28 (.int .i64 i) rfl rfl (by kernel_rfl) (by kernel_rfl) (by kernel_rfl) (fun _ _ _ h => h) (Or.inl ⟨wanted_plain rfl _, fun w hSw => by kernel_rfl⟩) (by assumption) ?_
      simp only [List.set_cons_zero, List.set_cons_succ]
      refine held_take 7 29 (.pointer (some ⟨b, o + i, none⟩)) rfl rfl (by kernel_rfl) (by kernel_rfl) (by kernel_rfl) (fun _ _ _ h => h) (Or.inl ⟨wanted_plain rfl _, fun w hSw => by (obtain ⟨g1, g2⟩ := hSw; go_simp)⟩) (by assumption) ?_
      simp only [List.set_cons_zero, List.set_cons_succ]
      refine held_take 8 30 (.slice Av xs.length cv) rfl rfl (by kernel_rfl) (by kernel_rfl) (by kernel_rfl) (fun _ _ _ h => h) (Or.inl ⟨wanted_plain rfl _, fun w hSw => exec_load 30 (.tmp 29) rfl rfl (by (obtain ⟨g1, g2⟩ := hSw; go_simp))⟩) (by assumption) ?_
      simp only [List.set_cons_zero, List.set_cons_succ]
      refine held_take 9 31 (.slice Av xs.length cv) rfl rfl (by kernel_rfl) (by kernel_rfl) (by kernel_rfl) (fun _ _ _ h => h) (Or.inl ⟨wanted_plain rfl _, fun w hSw => exec_slice 30 (.tmp 30) rfl rfl (slice_all w _ _ _)⟩) (by assumption) ?_
      simp only [List.set_cons_zero, List.set_cons_succ]
      have hsrc : Rd 0 W2.drew (.slice Av xs.length cv) xs := show Rd 0 W2 _ _ from HVV.out.below HB2.out
      obtain ⟨W3, cs3, hrun, hD3, hrd3, hf3⟩ := copy_bytes W2.drew D xs.length cv Av mL xs HD2.out hmLs rfl (Cells.of_rd hsrc)
      have hT3 := (HT2.out.drew).fm hf3 (show ¬ M1 D T from Ne.symm hDT)
      have hF3 : Fm (M1 T) wr W3 := (HF2.out.drew).trans' hf3 (fun j hj h => by have h' : j = D := h; omega)
      have hR3 : RdL 0 W3 vs' (xss.take i) := HD.out.fm hF3 (Its.m1 HK.out (by decide) (Nat.zero_le _))
      have hB3 : Below w.heap.size w W3 := ⟨hf3.os.trans HB2.out.os, hf3.tape.trans HB2.out.tape, hf3.output.trans HB2.out.output, Nat.le_trans HB2.out.size hf3.size, fun j hj => (hf3.block j (Nat.lt_of_lt_of_le hj HB2.out.size) (fun h => by have h' : j = D := h; omega)).trans (HB2.out.block j hj)⟩
      refine wpAnyH_ready (rs := [10]) (by kernel_rfl) (by simp) ?_
      refine AllReadyH.cons (o := _) rfl (fun K hK => ?_) AllReadyH.nil
      refine step_val 32 rfl rfl (exec_copy (.tmp 26) (.tmp 31) 30 30 rfl rfl rfl hrun) ?_
      refine hK.out _ _ ⟨?_, cell_keep hB3 (a := ⟨b, o + i, none⟩) HCL.out⟩ (fun hHeld => ?_)
      · rw [hT3.cell, Array.getElem?_setIfInBounds, if_pos rfl, if_pos (by omega)]
      clear hK K
      simp only [List.set_cons_zero, List.set_cons_succ]
      refine wpAnyH_done (by kernel_rfl) ?_ _
      have HT3 := Lib.hid hT3
      have HR3 := Lib.hid hR3
      have HB3 := Lib.hid hB3
      have HE3 := Lib.hid hrd3
      clear hT3 hR3 hB3 hrd3 hf3 hF3 hD3 hrun hsrc s1 s2 hHeld
      go_wp2_with fail
      have hw2 : (i : Int) + 1 = ((i + 1 : Nat) : Int) := by omega
      go_roundg (n - (i + 1) + 1)
      case measure => omega
      case rel =>
        refine ⟨i + 1, _, vs' ++ [.slice (some ⟨D, 0, none⟩) xs.length xs.length], rfl, by omega, ?_, HT3.out, by simp [hsz], by simp [hvl], fun j u hj => ?_, ?_, HB3.out⟩
        · rw [← hw2]
        · rw [List.getElem?_append] at hj
          rw [Array.getElem?_setIfInBounds]
          split at hj
          · rw [if_neg (by omega)]
            exact HV.out j u hj
          · by_cases hji : i = j
            · subst hji
              rw [hvl, Nat.sub_self] at hj
              simp at hj
              rw [if_pos rfl, if_pos (by omega), hj]
            · rw [List.getElem?_eq_none (by simp; omega)] at hj
              cases hj
        · have ht : xss.take (i + 1) = xss.take i ++ [xs] := by rw [List.take_add_one, HXS.out]; rfl
          rw [ht]
          exact RdL.snoc HR3.out HE3.out
end Go.Proofs.YtkgihpebghmnbaaGreatDoor

namespace Go.Proofs.YtkgihpebghmnbaaGreatDoor
open Go.RowKit Go.Proofs

set_option maxRecDepth 100000

section
variable {s : Sh}
theorem Sh.cell_x (hx : s.x.length = 64) {j : Nat} (hj : j < 64) : s.cells.toArray[8 + j]? = some (.int .u8 (s.x.getD j 0).toNat) := by
  have h : s.x[j]? = some (s.x.getD j 0) := by simp [List.getD_eq_getElem?_getD, List.getElem?_eq_getElem (show j < s.x.length by omega)]
  have e : 8 + j = j + 8 := by omega
  simp only [Sh.cells, List.getElem?_toArray, e]
  rw [List.getElem?_append_right (by simp)]
  simp only [List.length_cons, List.length_nil]
  rw [show j + 8 - (0 + 1 + 1 + 1 + 1 + 1 + 1 + 1 + 1) = j by omega, List.getElem?_append_left (by rw [bv_length]; omega), bv_get, h]
  rfl
theorem Sh.cells_drop (hx : s.x.length = 64) (k : Nat) : s.cells[72 + k]? = [Value.int .i64 s.nx, .int .u64 s.len, .bool false][k]? := by
  unfold Sh.cells
  rw [List.getElem?_append_right (by simp; omega), List.getElem?_append_right (by simp [bv_length, hx]; omega)]
  congr 1
  simp [bv_length, hx]
  omega
theorem Sh.cell_nx (hx : s.x.length = 64) : s.cells.toArray[72]? = some (.int .i64 s.nx) := by
  rw [List.getElem?_toArray]
  exact Sh.cells_drop hx 0
theorem Sh.cell_len (hx : s.x.length = 64) : s.cells.toArray[73]? = some (.int .u64 s.len) := by
  rw [List.getElem?_toArray]
  exact Sh.cells_drop hx 1
theorem Sh.cell_is (hx : s.x.length = 64) : s.cells.toArray[74]? = some (.bool false) := by
  rw [List.getElem?_toArray]
  exact Sh.cells_drop hx 2
theorem Sh.size (hx : s.x.length = 64) : s.cells.toArray.size = 75 := by simp [Sh.cells, bv_length, hx]
theorem Sh.set_nx (hx : s.x.length = 64) (k : Nat) : s.cells.toArray.setIfInBounds 72 (.int .i64 k) = ({ s with nx := k } : Sh).cells.toArray := by
  rw [List.setIfInBounds_toArray]
  congr 1
  unfold Sh.cells
  rw [List.set_append_right _ _ (by simp), List.set_append_right _ _ (by simp [bv_length, hx])]
  simp [bv_length, hx]
theorem Sh.set_len (hx : s.x.length = 64) (k : Nat) : s.cells.toArray.setIfInBounds 73 (.int .u64 k) = ({ s with len := k } : Sh).cells.toArray := by
  rw [List.setIfInBounds_toArray]
  congr 1
  unfold Sh.cells
  rw [List.set_append_right _ _ (by simp), List.set_append_right _ _ (by simp [bv_length, hx])]
  simp [bv_length, hx]
/-- Bytes laid over the buffer. -/
def lay (x : List UInt8) (i : Nat) (bs : List UInt8) : List UInt8 := x.take i ++ bs ++ x.drop (i + bs.length)
theorem lay_length {x bs : List UInt8} {i : Nat} (h : i + bs.length ≤ x.length) : (lay x i bs).length = x.length := by
  simp [lay]
  omega
theorem Sh.set_row (hx : s.x.length = 64) (i : Nat) (bs : List UInt8) (h : i + bs.length ≤ 64) :
    (s.cells.toArray.toList.take (8 + i) ++ bv bs ++ s.cells.toArray.toList.drop (8 + i + (bv bs).length)).toArray = ({ s with x := lay s.x i bs } : Sh).cells.toArray := by
  congr 1
  have e : (8 + i + (bv bs).length) = 8 + (i + bs.length) := by rw [bv_length]; omega
  rw [e]
  have h8 : ∀ (a : List Value) (b : List Value) (k : Nat), a.length = 8 → (a ++ b).take (8 + k) = a ++ b.take k := fun a b k ha => by
    rw [List.take_append, List.take_of_length_le (by omega), ha]
    congr 2
    omega
  have d8 : ∀ (a : List Value) (b : List Value) (k : Nat), a.length = 8 → (a ++ b).drop (8 + k) = b.drop k := fun a b k ha => by
    rw [List.drop_append, List.drop_eq_nil_of_le (by omega), ha, List.nil_append]
    congr 1
    omega
  show ([Value.int .u32 s.r.a, _, _, _, _, _, _, _] ++ (bv s.x ++ _)).take (8 + i) ++ bv bs ++ ([Value.int .u32 s.r.a, _, _, _, _, _, _, _] ++ (bv s.x ++ _)).drop (8 + (i + bs.length)) = _
  rw [h8 _ _ _ rfl, d8 _ _ _ rfl]
  rw [List.take_append, List.drop_append, bv_length, hx]
  rw [show i - 64 = 0 by omega, show i + bs.length - 64 = 0 by omega]
  simp only [List.take_zero, List.append_nil, List.drop_zero]
  unfold Sh.cells
  simp only [lay, bv_append, List.append_assoc]
  simp [bv, List.map_take, List.map_drop]
end

theorem and_mask (n : Nat) (hn : n < 2 ^ 63) : n &&& 18446744073709551552 = 64 * (n / 64) := by
  apply Nat.eq_of_testBit_eq
  intro i
  rw [Nat.testBit_and, show (18446744073709551552 : Nat) = 2 ^ 6 * (2 ^ 58 - 1) by decide, show (64 : Nat) = 2 ^ 6 by decide, Nat.testBit_two_pow_mul, Nat.testBit_two_pow_mul, Nat.testBit_two_pow_sub_one, Nat.testBit_div_two_pow]
  by_cases h6 : i ≥ 6
  · have e : 6 + (i - 6) = i := by omega
    have e2 : i - 6 + 6 = i := by omega
    simp only [h6, decide_true, Bool.true_and, e2]
    by_cases h64 : i - 6 < 58
    · simp [h64]
    · have : n.testBit i = false := Nat.testBit_lt_two_pow (Nat.lt_of_lt_of_le hn (Nat.pow_le_pow_right (by omega) (by omega)))
      simp [this]
  · simp [h6]
theorem andNot63 (n : Nat) (hn : n ≤ 1000000) : bits .andNot .i64 (n : Int) 63 = ((64 * (n / 64) : Nat) : Int) := by
  show IntKind.i64.wrap (((BitVec.ofInt 64 (n : Int) &&& ~~~ BitVec.ofInt 64 63).toNat : Nat) : Int) = _
  have e : (BitVec.ofInt 64 (n : Int) &&& ~~~ BitVec.ofInt 64 63).toNat = 64 * (n / 64) := by
    rw [BitVec.toNat_and]
    have h1 : (BitVec.ofInt 64 (n : Int)).toNat = n := by
      rw [BitVec.toNat_ofInt]
      omega
    have h2 : (~~~ BitVec.ofInt 64 63).toNat = 18446744073709551552 := by decide
    rw [h1, h2]
    exact and_mask n (by omega)
  rw [e]
  simp only [IntKind.wrap_i64]
  omega

/-- Some blocks of bytes. -/
def comps (kc : Nat → Int) (r : R8) (bs : List UInt8) (N : Nat) : R8 := (blks kc (fun j => (bs.getD j 0).toNat) (fun _ => 0, r) N).2
/-- The same, at most 1024 at once. -/
def bigs (kc : Nat → Int) : Nat → Nat → R8 → List UInt8 → R8
  | 0, N, r, bs => comps kc r bs N
  | f + 1, N, r, bs => if 1024 < N then bigs kc f (N - 1024) (comps kc r bs 1024) (bs.drop 65536) else comps kc r bs N
/-- What bytes make of a hash whose buffer is empty. -/
def Sh.rest (kc : Nat → Int) (s : Sh) (bs : List UInt8) : Sh :=
  let s2 : Sh := if bs.length < 64 then s else { s with r := bigs kc (bs.length / 64) (bs.length / 64) s.r bs }
  let t := bs.drop (64 * (bs.length / 64))
  if t.length = 0 then s2 else { s2 with x := lay s2.x 0 t, nx := t.length }
/-- What bytes make of a hash. -/
def Sh.feed (kc : Nat → Int) (s : Sh) (bs : List UInt8) : Sh :=
  let ln := (s.len + bs.length) % 18446744073709551616
  if s.nx = 0 then Sh.rest kc { s with len := ln } bs
  else if s.nx + bs.length < 64 then { s with x := lay s.x s.nx bs, nx := s.nx + bs.length, len := ln }
  else Sh.rest kc { s with r := comps kc s.r (lay s.x s.nx (bs.take (64 - s.nx))) 1, x := lay s.x s.nx (bs.take (64 - s.nx)), nx := 0, len := ln } (bs.drop (64 - s.nx))

theorem Sh.rest_nil (kc : Nat → Int) (s : Sh) : s.rest kc [] = s := rfl
theorem Sh.rest_small (kc : Nat → Int) (s : Sh) (bs : List UInt8) (h0 : 0 < bs.length) (h : bs.length < 64) : s.rest kc bs = { s with x := lay s.x 0 bs, nx := bs.length } := by
  have e : bs.length / 64 = 0 := by omega
  unfold Sh.rest
  simp only [e, Nat.mul_zero, List.drop_zero, if_pos h]
  rw [if_neg (by omega)]

theorem bigs_small (kc : Nat → Int) (f N : Nat) (r : R8) (bs : List UInt8) (h : ¬ 1024 < N) : bigs kc f N r bs = comps kc r bs N := by
  cases f <;> simp [bigs, h]
theorem bigs_succ (kc : Nat → Int) (f N : Nat) (r : R8) (bs : List UInt8) (h : 1024 < N) : bigs kc (f + 1) N r bs = bigs kc f (N - 1024) (comps kc r bs 1024) (bs.drop 65536) := by
  simp [bigs, h]
theorem Sh.rest_even (kc : Nat → Int) (s : Sh) (bs : List UInt8) (N : Nat) (hN : bs.length / 64 = N) (h : 0 < N) (h0 : bs.length = 64 * N) : s.rest kc bs = { s with r := bigs kc N N s.r bs } := by
  have h1 : ¬ bs.length < 64 := by omega
  have h2 : (bs.drop (64 * N)).length = 0 := by rw [List.length_drop]; omega
  unfold Sh.rest
  simp only [hN, if_neg h1, if_pos h2]
theorem Sh.rest_odd (kc : Nat → Int) (s : Sh) (bs : List UInt8) (N : Nat) (hN : bs.length / 64 = N) (h : 0 < N) (h0 : 64 * N < bs.length) : s.rest kc bs = { s with r := bigs kc N N s.r bs, x := lay s.x 0 (bs.drop (64 * N)), nx := (bs.drop (64 * N)).length } := by
  have h1 : ¬ bs.length < 64 := by omega
  have h2 : ¬ (bs.drop (64 * N)).length = 0 := by rw [List.length_drop]; omega
  unfold Sh.rest
  simp only [hN, if_neg h1, if_neg h2]

/-- Bytes copied into the buffer. -/
theorem copy_dg (W : World) (d i L cp m c k a8 : Nat) (A : Option Addr) (rs : List UInt8) (S : Sh) (hd : Dg W d S) (ha : a8 = 8 + i) (hL : i + L = 64) (hc : Cells W A m (bv rs)) (hm : 0 < m) (hk : k = Nat.min m L) :
    ∃ W', (Builtin.copy_ #[30, 30] 3 #[.slice (some ⟨d, a8, none⟩) L cp, .slice A m c]).run Tryz.prog W = .ok (goInt k) W' ∧ Dg W' d { S with x := lay S.x i (rs.take k) } ∧ Fm (M1 d) W W' := by
  obtain ⟨b, o, rfl, hcell⟩ := hc.2 hm
  have hrl : rs.length = m := by have := hc.1; rw [bv_length] at this; exact this
  have hk2 : k ≤ m ∧ k ≤ L := by rw [hk]; exact ⟨Nat.min_le_left _ _, Nat.min_le_right _ _⟩
  have htl : (rs.take k).length = k := by rw [List.length_take]; omega
  have hbl : (bv (rs.take k)).length = k := by rw [bv_length, htl]
  subst ha
  have hrun := run_copy_row (P := Tryz.prog) W 30 30 3 5 d (8 + i) L cp ⟨b, o, none⟩ m c S.cells.toArray 204 (bv (rs.take k)) Tryz.underlying30 info_u8s hd.1 (by rw [hbl]; exact hk) (fun j v hv => by
    rw [addr_add]
    refine hcell j v ?_
    rw [bv_get] at hv ⊢
    rw [List.getElem?_take] at hv
    split at hv
    · exact hv
    · simp at hv) (by rw [Sh.size hd.2, hbl]; omega) (by
      intro u hu
      simp only [bv, List.mem_map] at hu
      obtain ⟨x, _, rfl⟩ := hu
      rfl)
  rw [Sh.set_row hd.2 i (rs.take k) (by rw [htl]; omega), hbl] at hrun
  exact ⟨_, hrun, ⟨cBlk_setRow hd.1 _, by show (lay S.x i (rs.take k)).length = 64; rw [lay_length (by rw [htl, hd.2]; omega)]; exact hd.2⟩, cFm_setRow (Fm.refl _ _) _⟩
end Go.Proofs.YtkgihpebghmnbaaGreatDoor
