/- The spend of a script alone. -/
import Derived.Test.YtafpgikhcjildaaGreatDoorTx
import Derived.Test.YtafpgikhcjildaaGreatDoorSpec
import Derived.Deep.Cut
namespace Go.Proofs.YtafpgikhcjildaaGreatDoor
open Go.RowKit Go.Proofs

set_option maxRecDepth 100000

theorem wpList_buildSlice {P : Program} {w w' : World} {ops : Array Oper} {rest : List Oper} {o : Oper} {a : Act} {Q : Exit → Act → World → Prop} (t : TypeId) (n : Nat) (fs : Array (Nat × Operand)) (_ho : o.op = .buildSlice t n fs) (hgd : o.guard = none) (v : Value)
    (hr : (execOp a.eval o).run P w = .ok (.value v) w') (h : wpList P ops Q rest (a.put o.dst v) w') : wpList P ops Q (o :: rest) a w := wpList_run_value hgd v hr h

theorem Blk.setRow {w : World} {g : Nat} {t : TypeId} {cs : Array Value} (h : Blk w g t cs) (cs' : Array Value) : Blk (w.setRow g cs') g t cs' := setRow_heap w g cs cs' t (0, 0) h
theorem Fm.setRow {w w' : World} {g : Nat} (h : Fm (M1 g) w w') (cs : Array Value) : Fm (M1 g) w (w'.setRow g cs) :=
  ⟨h.os, h.tape, h.output, by simpa [World.setRow] using h.size, fun k hk hn => by
    have : k ≠ g := hn
    rw [← h.block k hk hn]
    simp only [World.setRow, Array.getElem?_modify]
    rw [if_neg (Ne.symm this)]⟩
theorem storeAt_row {P : Program} (w : World) (g : Nat) (t ty : TypeId) (old cells : Array Value) (hg : w.heap[g]? = some (.cells old t (0, 0))) (hi : (P.info? ty).map (·.size) = some cells.size) (ho : old.size = cells.size) (h1 : cells.all (·.oneCell') = true) :
    (Instr.storeAt ty (.pointer (some ⟨g, 0, none⟩)) (.agg cells)).run P w = .ok () (w.setRow g cells) := by
  simp only [Instr.storeAt, Instr.sureAddr, Sem.run_bind, Sem.run_pure, Result.andThen]
  exact run_storeVar_row w g t ty old cells hg hi ho h1
theorem loadAt_row {P : Program} (w : World) (g : Nat) (t ty : TypeId) (cells : Array Value) {d : TypeDesc} (hg : w.heap[g]? = some (.cells cells t (0, 0))) (hu : P.underlying ty = some d)
    (hd : (match d with | .struct _ | .array _ _ => true | _ => false) = true) (hi : (P.info? ty).map (·.size) = some cells.size) :
    (Instr.loadAt ty (.pointer (some ⟨g, 0, none⟩))).run P w = .ok (.agg cells) w := by
  simp only [Instr.loadAt, Instr.sureAddr, Sem.run_bind, Sem.run_pure, Result.andThen]
  exact run_loadVar_row w g t ty cells (0, 0) d hg hu hd hi
theorem info_spend : (Tryz.prog.info? 37).map (·.size) = some 8 := by kernel_rfl
theorem info_tx : (Tryz.prog.info? 34).map (·.size) = some 4 := by kernel_rfl

/-- What the world is behind alone. -/
def AloneS (T ri ro n : Nat) (r2 : Int) (bs : List UInt8) (w w' : World) : Prop := ∃ A3 c3, Blk w' T 37 #[.slice A3 (n + 1) c3, .int .i64 0, .int .i32 2, .slice (some ⟨ri, 0, none⟩) 1 1, .slice (some ⟨ro, 0, none⟩) 1 1, .int .u32 100, .int .i64 0, .int .u32 r2] ∧
  w'.ownsRow T 5 1 (.slice A3 (n + 1) c3) (n + 1) (bv bs ++ [.int .u8 81]) ∧ Blk w' ri 63 inCells.toArray ∧ Blk w' ro 65 #[.int .i64 1, .slice none 0 0] ∧ Below T w w'

set_option maxHeartbeats 1000000 in
theorem alone_rule (w : World) (r r2 : Int) (hr : bits .and .u32 r 798 = r2) (A : Option Addr) (n c : Nat) (bs : List UInt8) (h : Rd 0 w (.slice A n c) bs) (hn : n ≤ 10000000) :
    Calls Tryz.prog 7 #[.slice A n c, .int .u32 r] w fun e w' => ∃ A' c' ri ro c1 c2, e = .returned (.agg #[.slice A' (n + 1) c', .int .i64 0, .int .i32 2, .slice (some ⟨ri, 0, none⟩) 1 c1, .slice (some ⟨ro, 0, none⟩) 1 c2, .int .u32 100, .int .i64 0, .int .u32 r2]) ∧
      w'.ownsRow w.heap.size 5 1 (.slice A' (n + 1) c') (n + 1) (bv (bs ++ [81])) ∧ Blk w' ri 63 inCells.toArray ∧ Blk w' ro 65 #[.int .i64 1, .slice none 0 0] ∧ Below w.heap.size w w' := by
  have H := Lib.hid h
  clear h
  go_enter Tryz.func7, Tryz.ntmps7
  go_wp2_with (refine wpList_build 63 _ rfl rfl (.agg inCells.toArray) (by kernel_rfl) ?_; refine Stop.mk ?_)
  refine Stop.go ?_
  generalize hW : w.alloc (.cells #[.slice none 0 0, .int .i64 0, .int .i32 0, .slice none 0 0, .slice none 0 0, .int .u32 0, .int .i64 0, .int .u32 0] 37) = W1
  refine wpList_buildSlice 30 1 _ rfl rfl (.slice (some ⟨W1.heap.size, 0, none⟩) 1 1) (w' := W1.alloc (.cells inCells.toArray 63)) (by kernel_rfl) ?_
  go_upto_region 2 with fail
  have hs1 : W1.heap.size = w.heap.size + 1 := by rw [← hW]; simp
  have hB1 : Blk W1 w.heap.size 37 #[.slice none 0 0, .int .i64 0, .int .i32 0, .slice none 0 0, .slice none 0 0, .int .u32 0, .int .i64 0, .int .u32 0] := by rw [← hW]; exact Blk.new w _ _
  have hb1 : Below w.heap.size w W1 := by rw [← hW]; exact (Below.refl _ _).alloc (Nat.le_refl _) _
  clear hW
  have hri := ((Blk.new W1 63 inCells.toArray).alloc (.cells #[.int .i64 1, .slice none 0 0] 65)).alloc (.cells #[.int .i32 2, .slice (some ⟨W1.heap.size, 0, none⟩) 1 1, .slice (some ⟨W1.heap.size + 1, 0, none⟩) 1 1, .int .u32 100] 34)
  have hro := (Blk.new (W1.alloc (.cells inCells.toArray 63)) 65 #[.int .i64 1, .slice none 0 0]).alloc (.cells #[.int .i32 2, .slice (some ⟨W1.heap.size, 0, none⟩) 1 1, .slice (some ⟨W1.heap.size + 1, 0, none⟩) 1 1, .int .u32 100] 34)
  have hx := Blk.new ((W1.alloc (.cells inCells.toArray 63)).alloc (.cells #[.int .i64 1, .slice none 0 0] 65)) 34 #[.int .i32 2, .slice (some ⟨W1.heap.size, 0, none⟩) 1 1, .slice (some ⟨W1.heap.size + 1, 0, none⟩) 1 1, .int .u32 100]
  have hB4 := ((hB1.alloc (.cells inCells.toArray 63)).alloc (.cells #[.int .i64 1, .slice none 0 0] 65)).alloc (.cells #[.int .i32 2, .slice (some ⟨W1.heap.size, 0, none⟩) 1 1, .slice (some ⟨W1.heap.size + 1, 0, none⟩) 1 1, .int .u32 100] 34)
  have hle : w.heap.size ≤ W1.heap.size := hb1.size
  have hb4 : Below w.heap.size w (((W1.alloc (.cells inCells.toArray 63)).alloc (.cells #[.int .i64 1, .slice none 0 0] 65)).alloc (.cells #[.int .i32 2, .slice (some ⟨W1.heap.size, 0, none⟩) 1 1, .slice (some ⟨W1.heap.size + 1, 0, none⟩) 1 1, .int .u32 100] 34)) := ((hb1.alloc hle _).alloc (by simp; omega) _).alloc (by simp; omega) _
  have e1 : (W1.alloc (.cells inCells.toArray 63)).heap.size = W1.heap.size + 1 := by simp
  have e2 : ((W1.alloc (.cells inCells.toArray 63)).alloc (.cells #[.int .i64 1, .slice none 0 0] 65)).heap.size = W1.heap.size + 1 + 1 := by simp
  rw [e1] at hro
  rw [e2] at hx
  clear e1 e2 hb1 hB1
  generalize hW4 : ((W1.alloc (.cells inCells.toArray 63)).alloc (.cells #[.int .i64 1, .slice none 0 0] 65)).alloc (.cells #[.int .i32 2, .slice (some ⟨W1.heap.size, 0, none⟩) 1 1, .slice (some ⟨W1.heap.size + 1, 0, none⟩) 1 1, .int .u32 100] 34) = W4 at *
  clear hW4
  generalize W1.heap.size + 1 + 1 = tx at *
  generalize W1.heap.size + 1 = ro at *
  generalize W1.heap.size = ri at *
  have hT4 : w.heap.size < W4.heap.size := hB4.lt
  have hT4l : w.heap.size ≤ W4.heap.size := Nat.le_of_lt hT4
  have hTb : ∀ k, k < w.heap.size → ¬ M1 w.heap.size k := fun k hk h => Nat.ne_of_lt hk h
  have hriT : ¬ M1 w.heap.size ri := Blk.ne_ hri hB4 (by decide)
  have hroT : ¬ M1 w.heap.size ro := Blk.ne_ hro hB4 (by decide)
  have hxT : ¬ M1 w.heap.size tx := Blk.ne_ hx hB4 (by decide)
  have HB4 := Lib.hid hb4
  have HRI := Lib.hid hri
  have HRO := Lib.hid hro
  have HX := Lib.hid hx
  clear hb4 hri hro hx hle hs1
  generalize hTT : w.heap.size = T at HB4 hB4 hT4 hT4l hTb hriT hroT hxT ⊢
  refine Code.wp_mono (Q := fun e a' w' => e = .normal ∧ (∃ x11 x12 x13 x14 x15 x16 x17 x18 x19 : Value, a' = ⟨#[.slice A n c, .int .u32 r, undef, undef, .pointer (some ⟨T, 0, none⟩), .pointer (some ⟨tx, 0, none⟩), .agg inCells.toArray, .slice (some ⟨ri, 0, none⟩) 1 1, .agg #[.int .i64 1, .slice none 0 0], .slice (some ⟨ro, 0, none⟩) 1 1, .agg #[.int .i32 2, .slice (some ⟨ri, 0, none⟩) 1 1, .slice (some ⟨ro, 0, none⟩) 1 1, .int .u32 100], x11, x12, x13, x14, x15, x16, x17, x18, x19], []⟩) ∧ AloneS T ri ro n r2 bs w w') ?_ ?_
  rotate_left
  · have F : Fm (M1 T) W4 W4.drew := (Fm.refl _ _).drew
    have B := hB4.drew
    obtain ⟨i0, hi, hz0, hz1, hz2⟩ := info_parts info_u8
    have hone : Hid (∀ u ∈ bv bs, u.oneCell' = true) := by
      intro u hu
      simp only [bv, List.mem_map] at hu
      obtain ⟨b, _, rfl⟩ := hu
      rfl
    refine wp_region_held_drew (S := fun w' => Blk w' tx 34 #[.int .i32 2, .slice (some ⟨ri, 0, none⟩) 1 1, .slice (some ⟨ro, 0, none⟩) 1 1, .int .u32 100]) (by kernel_rfl) (Blk.fm HX.out F hxT) (fun hHeld => ?_)
    refine held_take 1 12 (.slice A n c) rfl rfl (by kernel_rfl) (by kernel_rfl) (by kernel_rfl) (fun _ _ _ h => nomatch h.1) (Or.inl ⟨wanted_plain rfl _, fun w hSw => by kernel_rfl⟩) (by assumption) ?_
    simp only [List.set_cons_zero, List.set_cons_succ]
    refine held_take 6 17 (.int .u32 r) rfl rfl (by kernel_rfl) (by kernel_rfl) (by kernel_rfl) (fun _ _ _ h => nomatch h.1) (Or.inl ⟨wanted_plain rfl _, fun w hSw => by kernel_rfl⟩) (by assumption) ?_
    simp only [List.set_cons_zero, List.set_cons_succ]
    refine held_take 7 18 (.int .u32 r2) rfl rfl (by kernel_rfl) (by kernel_rfl) (by kernel_rfl) (fun _ _ _ h => nomatch h.1) (Or.inl ⟨wanted_plain rfl _, fun w hSw => by go_simp⟩) (by assumption) ?_
    simp only [List.set_cons_zero, List.set_cons_succ]
    refine held_take 5 16 (.agg #[.int .i32 2, .slice (some ⟨ri, 0, none⟩) 1 1, .slice (some ⟨ro, 0, none⟩) 1 1, .int .u32 100]) rfl rfl (by kernel_rfl) (by kernel_rfl) (by kernel_rfl) (fun _ _ _ h => nomatch h.1) (Or.inl ⟨wanted_plain rfl _, fun w hSw => exec_load 34 (.tmp 5) rfl rfl (loadAt_row w tx 34 34 #[.int .i32 2, .slice (some ⟨ri, 0, none⟩) 1 1, .slice (some ⟨ro, 0, none⟩) 1 1, .int .u32 100] hSw Tryz.underlying34 rfl info_tx)⟩) (by assumption) ?_
    simp only [List.set_cons_zero, List.set_cons_succ]
    refine wpAnyH_ready (rs := [0, 3]) (by kernel_rfl) (by simp) ?_
    refine AllReadyH.cons (o := _) rfl (fun K hK => ?_) ?_
    · skip
      refine step_val 11 rfl rfl (w' := World.alloc (World.drew W4) (.cells #[] 5)) (v := .slice (some ⟨((World.drew W4)).heap.size, 0, none⟩) 0 0) (by kernel_rfl) ?_
      have F0 : Fm (M1 T) W4 (World.alloc (World.drew W4) (.cells #[] 5)) := Fm.alloc F _
      have B0 := Blk.alloc B (.cells #[] 5)
      have O0 := World.ownsRow_made (base := T) (e := 5) (size := 1) ((World.drew W4)) #[] 0 (Nat.le_trans hT4l (F).size) (by simp [maxLen]) rfl
      have K0N : W4.heap.size ≤ ((World.drew W4)).heap.size := (F).size
      have L0 : ((World.drew W4)).heap.size < (World.alloc (World.drew W4) (.cells #[] 5)).heap.size := by simp
      generalize hk0 : ((World.drew W4)).heap.size = k0 at *
      generalize hV0 : World.alloc (World.drew W4) (.cells #[] 5) = V0 at *
      clear hV0 hk0
      refine hK.out _ _ (Blk.fm HX.out F0 hxT) (fun hHeld => ?_)
      clear hK K
      simp only [List.set_cons_zero, List.set_cons_succ]
      refine wpAnyH_ready (rs := [2, 3]) (by kernel_rfl) (by simp) ?_
      refine AllReadyH.cons (o := _) rfl (fun K hK => ?_) ?_
      · skip
        have hbel := Lib.hid (Below.fm HB4.out F0 hT4l hTb)
        refine step_app 13 rfl rfl (.tmp 11) (.tmp 12) 24 rfl T 5 i0 _ 1 Tryz.underlying24 hi hz0 hz1 hz2 rfl (.slice (some ⟨k0, 0, none⟩) 0 0) 0 [] rfl O0 A n c (bv bs) rfl (Cells.of_rd (Rd.below H.out (hTT ▸ hbel.out))) hone.out (by omega) (by omega) (Nat.le_trans hT4l (F0).size) ?_
        intro v2 V2 hown hgrow hat
        simp only [Nat.zero_add, List.nil_append] at hown
        obtain ⟨A2, c2, rfl⟩ := own_form hown
        have F2 : Fm (M1 T) W4 V2 := Fm.grown F0 hgrow (fun k hk h => by simp [Value.ownBlock] at h; omega)
        have B2 := Blk.grown B0 hgrow (fun h => by simp [Value.ownBlock] at h; omega)
        clear hgrow hat hbel
        refine hK.out _ _ (Blk.fm HX.out F2 hxT) (fun hHeld => ?_)
        clear hK K
        simp only [List.set_cons_zero, List.set_cons_succ]
        refine wpAnyH_ready (rs := [3]) (by kernel_rfl) (by simp) ?_
        refine AllReadyH.cons (o := _) rfl (fun K hK => ?_) ?_
        · skip
          refine step_val 14 rfl rfl (w' := World.alloc V2 (.cells #[.int .u8 81] 5)) (v := .slice (some ⟨(V2).heap.size, 0, none⟩) 1 1) (by kernel_rfl) ?_
          have F3 : Fm (M1 T) W4 (World.alloc V2 (.cells #[.int .u8 81] 5)) := Fm.alloc F2 _
          have B3 := Blk.alloc B2 (.cells #[.int .u8 81] 5)
          have C3 := Cells.one (V2) (.int .u8 81) 5
          have O3 := own_below hown ((Below.refl _ (V2)).alloc (Nat.le_refl _) (.cells #[.int .u8 81] 5))
          have L3 : (V2).heap.size < (World.alloc V2 (.cells #[.int .u8 81] 5)).heap.size := by simp
          generalize hb8 : (V2).heap.size = b8 at *
          generalize hV3 : World.alloc V2 (.cells #[.int .u8 81] 5) = V3 at *
          clear hV3 hb8
          refine hK.out _ _ (Blk.fm HX.out F3 hxT) (fun hHeld => ?_)
          clear hK K
          simp only [List.set_cons_zero, List.set_cons_succ]
          refine wpAnyH_ready (rs := [4]) (by kernel_rfl) (by simp) ?_
          refine AllReadyH.cons (o := _) rfl (fun K hK => ?_) ?_
          · skip
            have hbel := Lib.hid (Below.fm HB4.out F3 hT4l hTb)
            have hri := Blk.fm HRI.out F3 hriT
            have hro := Blk.fm HRO.out F3 hroT
            have hxx := Blk.fm HX.out F3 hxT
            refine step_app 15 rfl rfl (.tmp 13) (.tmp 14) 24 rfl T 5 i0 _ 1 Tryz.underlying24 hi hz0 hz1 hz2 rfl (.slice A2 n c2) n (bv bs) rfl O3 (some ⟨b8, 0, none⟩) 1 1 [.int .u8 81] rfl C3 (by intro u hu; simp at hu; subst hu; rfl) (by omega) (by omega) (Nat.le_trans hT4l (F3).size) ?_
            intro v5 V5 hown5 hgrow hat
            obtain ⟨A3, c3, rfl⟩ := own_form hown5
            have B5 := Blk.grown B3 hgrow (fun h => own_blk_ne O3 B3 (by decide) h.symm)
            have HB5 := Lib.hid (Below.grown hbel.out hgrow (Nat.le_trans hT4l (F3).size) (fun k hk => ((O3).lt k hk).1))
            have R5 := Blk.grown hri hgrow (fun h => own_blk_ne O3 hri (by decide) h.symm)
            have U5 := Blk.grown hro hgrow (fun h => own_blk_ne O3 hro (by decide) h.symm)
            have X5 := Blk.grown hxx hgrow (fun h => own_blk_ne O3 hxx (by decide) h.symm)
            clear hgrow hat hbel
            refine hK.out _ _ X5 (fun hHeld => ?_)
            clear hK K
            simp only [List.set_cons_zero, List.set_cons_succ]
            refine held_take 8 19 (.agg #[.slice A3 (n + 1) c3, .int .i64 0, .int .i32 2, .slice (some ⟨ri, 0, none⟩) 1 1, .slice (some ⟨ro, 0, none⟩) 1 1, .int .u32 100, .int .i64 0, .int .u32 r2]) rfl rfl (by kernel_rfl) (by kernel_rfl) (by kernel_rfl) (fun _ _ _ h => nomatch h.1) (Or.inl ⟨wanted_plain rfl _, fun w hSw => by kernel_rfl⟩) (by assumption) ?_
            simp only [List.set_cons_zero, List.set_cons_succ]
            refine wpAnyH_ready (rs := [9]) (by kernel_rfl) (by simp) ?_
            refine AllReadyH.cons (o := _) rfl (fun K hK => ?_) ?_
            · skip
              refine step_skip' (w' := V5.setRow T #[.slice A3 (n + 1) c3, .int .i64 0, .int .i32 2, .slice (some ⟨ri, 0, none⟩) 1 1, .slice (some ⟨ro, 0, none⟩) 1 1, .int .u32 100, .int .i64 0, .int .u32 r2]) rfl rfl (exec_store 37 (.tmp 4) (.tmp 19) rfl rfl rfl (storeAt_row V5 T 37 37 _ #[.slice A3 (n + 1) c3, .int .i64 0, .int .i32 2, .slice (some ⟨ri, 0, none⟩) 1 1, .slice (some ⟨ro, 0, none⟩) 1 1, .int .u32 100, .int .i64 0, .int .u32 r2] B5 info_spend rfl (by simp [Value.oneCell']))) ?_
              have F9 : Fm (M1 T) V5 (V5.setRow T #[.slice A3 (n + 1) c3, .int .i64 0, .int .i32 2, .slice (some ⟨ri, 0, none⟩) 1 1, .slice (some ⟨ro, 0, none⟩) 1 1, .int .u32 100, .int .i64 0, .int .u32 r2]) := Fm.setRow (Fm.refl _ _) _
              refine hK.out _ _ (Blk.fm X5 F9 hxT) (fun hHeld => ?_)
              clear hK K
              refine wpAnyH_done (by kernel_rfl) ?_ _
              exact ⟨rfl, ⟨_, _, _, _, _, _, _, _, _, rfl⟩, A3, c3, Blk.setRow B5 _, own_fm hown5 F9 (fun k hk h => own_blk_ne hown5 B5 (by decide) (by rw [hk, show k = T from h])), Blk.fm R5 F9 hriT, Blk.fm U5 F9 hroT, Below.fm HB5.out F9 (by have := HB5.out.size; omega) hTb⟩
            exact AllReadyH.nil
          exact AllReadyH.nil
        exact AllReadyH.nil
      refine AllReadyH.cons (o := _) rfl (fun K hK => ?_) ?_
      · skip
        refine step_val 14 rfl rfl (w' := World.alloc V0 (.cells #[.int .u8 81] 5)) (v := .slice (some ⟨(V0).heap.size, 0, none⟩) 1 1) (by kernel_rfl) ?_
        have F3 : Fm (M1 T) W4 (World.alloc V0 (.cells #[.int .u8 81] 5)) := Fm.alloc F0 _
        have B3 := Blk.alloc B0 (.cells #[.int .u8 81] 5)
        have C3 := Cells.one (V0) (.int .u8 81) 5
        have O3 := own_below O0 ((Below.refl _ (V0)).alloc (Nat.le_refl _) (.cells #[.int .u8 81] 5))
        have L3 : (V0).heap.size < (World.alloc V0 (.cells #[.int .u8 81] 5)).heap.size := by simp
        have n83 : ¬ ((V0).heap.size = k0) := Nat.ne_of_gt L0
        generalize hb8 : (V0).heap.size = b8 at *
        generalize hV3 : World.alloc V0 (.cells #[.int .u8 81] 5) = V3 at *
        clear hV3 hb8
        refine hK.out _ _ (Blk.fm HX.out F3 hxT) (fun hHeld => ?_)
        clear hK K
        simp only [List.set_cons_zero, List.set_cons_succ]
        refine wpAnyH_ready (rs := [2]) (by kernel_rfl) (by simp) ?_
        refine AllReadyH.cons (o := _) rfl (fun K hK => ?_) ?_
        · skip
          have hbel := Lib.hid (Below.fm HB4.out F3 hT4l hTb)
          refine step_app 13 rfl rfl (.tmp 11) (.tmp 12) 24 rfl T 5 i0 _ 1 Tryz.underlying24 hi hz0 hz1 hz2 rfl (.slice (some ⟨k0, 0, none⟩) 0 0) 0 [] rfl O3 A n c (bv bs) rfl (Cells.of_rd (Rd.below H.out (hTT ▸ hbel.out))) hone.out (by omega) (by omega) (Nat.le_trans hT4l (F3).size) ?_
          intro v2 V2 hown hgrow hat
          simp only [Nat.zero_add, List.nil_append] at hown
          obtain ⟨A2, c2, rfl⟩ := own_form hown
          have F2 : Fm (M1 T) W4 V2 := Fm.grown F3 hgrow (fun k hk h => by simp [Value.ownBlock] at h; omega)
          have B2 := Blk.grown B3 hgrow (fun h => by simp [Value.ownBlock] at h; omega)
          have C2 := Cells.fm C3 (M := fun j => j = k0) (Fm.grown (Fm.refl _ _) hgrow (fun k _ h => by simp [Value.ownBlock] at h; exact h.symm)) (fun b' o' h => by injection h with h; injection h with h1 h2; subst h1; exact n83)
          clear hgrow hat hbel
          refine hK.out _ _ (Blk.fm HX.out F2 hxT) (fun hHeld => ?_)
          clear hK K
          simp only [List.set_cons_zero, List.set_cons_succ]
          refine wpAnyH_ready (rs := [4]) (by kernel_rfl) (by simp) ?_
          refine AllReadyH.cons (o := _) rfl (fun K hK => ?_) ?_
          · skip
            have hbel := Lib.hid (Below.fm HB4.out F2 hT4l hTb)
            have hri := Blk.fm HRI.out F2 hriT
            have hro := Blk.fm HRO.out F2 hroT
            have hxx := Blk.fm HX.out F2 hxT
            refine step_app 15 rfl rfl (.tmp 13) (.tmp 14) 24 rfl T 5 i0 _ 1 Tryz.underlying24 hi hz0 hz1 hz2 rfl (.slice A2 n c2) n (bv bs) rfl hown (some ⟨b8, 0, none⟩) 1 1 [.int .u8 81] rfl C2 (by intro u hu; simp at hu; subst hu; rfl) (by omega) (by omega) (Nat.le_trans hT4l (F2).size) ?_
            intro v5 V5 hown5 hgrow hat
            obtain ⟨A3, c3, rfl⟩ := own_form hown5
            have B5 := Blk.grown B2 hgrow (fun h => own_blk_ne hown B2 (by decide) h.symm)
            have HB5 := Lib.hid (Below.grown hbel.out hgrow (Nat.le_trans hT4l (F2).size) (fun k hk => ((hown).lt k hk).1))
            have R5 := Blk.grown hri hgrow (fun h => own_blk_ne hown hri (by decide) h.symm)
            have U5 := Blk.grown hro hgrow (fun h => own_blk_ne hown hro (by decide) h.symm)
            have X5 := Blk.grown hxx hgrow (fun h => own_blk_ne hown hxx (by decide) h.symm)
            clear hgrow hat hbel
            refine hK.out _ _ X5 (fun hHeld => ?_)
            clear hK K
            simp only [List.set_cons_zero, List.set_cons_succ]
            refine held_take 8 19 (.agg #[.slice A3 (n + 1) c3, .int .i64 0, .int .i32 2, .slice (some ⟨ri, 0, none⟩) 1 1, .slice (some ⟨ro, 0, none⟩) 1 1, .int .u32 100, .int .i64 0, .int .u32 r2]) rfl rfl (by kernel_rfl) (by kernel_rfl) (by kernel_rfl) (fun _ _ _ h => nomatch h.1) (Or.inl ⟨wanted_plain rfl _, fun w hSw => by kernel_rfl⟩) (by assumption) ?_
            simp only [List.set_cons_zero, List.set_cons_succ]
            refine wpAnyH_ready (rs := [9]) (by kernel_rfl) (by simp) ?_
            refine AllReadyH.cons (o := _) rfl (fun K hK => ?_) ?_
            · skip
              refine step_skip' (w' := V5.setRow T #[.slice A3 (n + 1) c3, .int .i64 0, .int .i32 2, .slice (some ⟨ri, 0, none⟩) 1 1, .slice (some ⟨ro, 0, none⟩) 1 1, .int .u32 100, .int .i64 0, .int .u32 r2]) rfl rfl (exec_store 37 (.tmp 4) (.tmp 19) rfl rfl rfl (storeAt_row V5 T 37 37 _ #[.slice A3 (n + 1) c3, .int .i64 0, .int .i32 2, .slice (some ⟨ri, 0, none⟩) 1 1, .slice (some ⟨ro, 0, none⟩) 1 1, .int .u32 100, .int .i64 0, .int .u32 r2] B5 info_spend rfl (by simp [Value.oneCell']))) ?_
              have F9 : Fm (M1 T) V5 (V5.setRow T #[.slice A3 (n + 1) c3, .int .i64 0, .int .i32 2, .slice (some ⟨ri, 0, none⟩) 1 1, .slice (some ⟨ro, 0, none⟩) 1 1, .int .u32 100, .int .i64 0, .int .u32 r2]) := Fm.setRow (Fm.refl _ _) _
              refine hK.out _ _ (Blk.fm X5 F9 hxT) (fun hHeld => ?_)
              clear hK K
              refine wpAnyH_done (by kernel_rfl) ?_ _
              exact ⟨rfl, ⟨_, _, _, _, _, _, _, _, _, rfl⟩, A3, c3, Blk.setRow B5 _, own_fm hown5 F9 (fun k hk h => own_blk_ne hown5 B5 (by decide) (by rw [hk, show k = T from h])), Blk.fm R5 F9 hriT, Blk.fm U5 F9 hroT, Below.fm HB5.out F9 (by have := HB5.out.size; omega) hTb⟩
            exact AllReadyH.nil
          exact AllReadyH.nil
        exact AllReadyH.nil
      exact AllReadyH.nil
    refine AllReadyH.cons (o := _) rfl (fun K hK => ?_) ?_
    · skip
      refine step_val 14 rfl rfl (w' := World.alloc (World.drew W4) (.cells #[.int .u8 81] 5)) (v := .slice (some ⟨((World.drew W4)).heap.size, 0, none⟩) 1 1) (by kernel_rfl) ?_
      have F3 : Fm (M1 T) W4 (World.alloc (World.drew W4) (.cells #[.int .u8 81] 5)) := Fm.alloc F _
      have B3 := Blk.alloc B (.cells #[.int .u8 81] 5)
      have C3 := Cells.one ((World.drew W4)) (.int .u8 81) 5
      have L3 : ((World.drew W4)).heap.size < (World.alloc (World.drew W4) (.cells #[.int .u8 81] 5)).heap.size := by simp
      generalize hb8 : ((World.drew W4)).heap.size = b8 at *
      generalize hV3 : World.alloc (World.drew W4) (.cells #[.int .u8 81] 5) = V3 at *
      clear hV3 hb8
      refine hK.out _ _ (Blk.fm HX.out F3 hxT) (fun hHeld => ?_)
      clear hK K
      simp only [List.set_cons_zero, List.set_cons_succ]
      refine wpAnyH_ready (rs := [0]) (by kernel_rfl) (by simp) ?_
      refine AllReadyH.cons (o := _) rfl (fun K hK => ?_) ?_
      · skip
        refine step_val 11 rfl rfl (w' := World.alloc V3 (.cells #[] 5)) (v := .slice (some ⟨(V3).heap.size, 0, none⟩) 0 0) (by kernel_rfl) ?_
        have F0 : Fm (M1 T) W4 (World.alloc V3 (.cells #[] 5)) := Fm.alloc F3 _
        have B0 := Blk.alloc B3 (.cells #[] 5)
        have O0 := World.ownsRow_made (base := T) (e := 5) (size := 1) (V3) #[] 0 (Nat.le_trans hT4l (F3).size) (by simp [maxLen]) rfl
        have K0N : W4.heap.size ≤ (V3).heap.size := (F3).size
        have C0 := Cells.below C3 ((Below.refl _ (V3)).alloc (Nat.le_refl _) (.cells #[] 5))
        have n38 : ¬ (b8 = (V3).heap.size) := Nat.ne_of_lt L3
        have L0 : (V3).heap.size < (World.alloc V3 (.cells #[] 5)).heap.size := by simp
        generalize hk0 : (V3).heap.size = k0 at *
        generalize hV0 : World.alloc V3 (.cells #[] 5) = V0 at *
        clear hV0 hk0
        refine hK.out _ _ (Blk.fm HX.out F0 hxT) (fun hHeld => ?_)
        clear hK K
        simp only [List.set_cons_zero, List.set_cons_succ]
        refine wpAnyH_ready (rs := [2]) (by kernel_rfl) (by simp) ?_
        refine AllReadyH.cons (o := _) rfl (fun K hK => ?_) ?_
        · skip
          have hbel := Lib.hid (Below.fm HB4.out F0 hT4l hTb)
          refine step_app 13 rfl rfl (.tmp 11) (.tmp 12) 24 rfl T 5 i0 _ 1 Tryz.underlying24 hi hz0 hz1 hz2 rfl (.slice (some ⟨k0, 0, none⟩) 0 0) 0 [] rfl O0 A n c (bv bs) rfl (Cells.of_rd (Rd.below H.out (hTT ▸ hbel.out))) hone.out (by omega) (by omega) (Nat.le_trans hT4l (F0).size) ?_
          intro v2 V2 hown hgrow hat
          simp only [Nat.zero_add, List.nil_append] at hown
          obtain ⟨A2, c2, rfl⟩ := own_form hown
          have F2 : Fm (M1 T) W4 V2 := Fm.grown F0 hgrow (fun k hk h => by simp [Value.ownBlock] at h; omega)
          have B2 := Blk.grown B0 hgrow (fun h => by simp [Value.ownBlock] at h; omega)
          have C2 := Cells.fm C0 (M := fun j => j = k0) (Fm.grown (Fm.refl _ _) hgrow (fun k _ h => by simp [Value.ownBlock] at h; exact h.symm)) (fun b' o' h => by injection h with h; injection h with h1 h2; subst h1; exact n38)
          clear hgrow hat hbel
          refine hK.out _ _ (Blk.fm HX.out F2 hxT) (fun hHeld => ?_)
          clear hK K
          simp only [List.set_cons_zero, List.set_cons_succ]
          refine wpAnyH_ready (rs := [4]) (by kernel_rfl) (by simp) ?_
          refine AllReadyH.cons (o := _) rfl (fun K hK => ?_) ?_
          · skip
            have hbel := Lib.hid (Below.fm HB4.out F2 hT4l hTb)
            have hri := Blk.fm HRI.out F2 hriT
            have hro := Blk.fm HRO.out F2 hroT
            have hxx := Blk.fm HX.out F2 hxT
            refine step_app 15 rfl rfl (.tmp 13) (.tmp 14) 24 rfl T 5 i0 _ 1 Tryz.underlying24 hi hz0 hz1 hz2 rfl (.slice A2 n c2) n (bv bs) rfl hown (some ⟨b8, 0, none⟩) 1 1 [.int .u8 81] rfl C2 (by intro u hu; simp at hu; subst hu; rfl) (by omega) (by omega) (Nat.le_trans hT4l (F2).size) ?_
            intro v5 V5 hown5 hgrow hat
            obtain ⟨A3, c3, rfl⟩ := own_form hown5
            have B5 := Blk.grown B2 hgrow (fun h => own_blk_ne hown B2 (by decide) h.symm)
            have HB5 := Lib.hid (Below.grown hbel.out hgrow (Nat.le_trans hT4l (F2).size) (fun k hk => ((hown).lt k hk).1))
            have R5 := Blk.grown hri hgrow (fun h => own_blk_ne hown hri (by decide) h.symm)
            have U5 := Blk.grown hro hgrow (fun h => own_blk_ne hown hro (by decide) h.symm)
            have X5 := Blk.grown hxx hgrow (fun h => own_blk_ne hown hxx (by decide) h.symm)
            clear hgrow hat hbel
            refine hK.out _ _ X5 (fun hHeld => ?_)
            clear hK K
            simp only [List.set_cons_zero, List.set_cons_succ]
            refine held_take 8 19 (.agg #[.slice A3 (n + 1) c3, .int .i64 0, .int .i32 2, .slice (some ⟨ri, 0, none⟩) 1 1, .slice (some ⟨ro, 0, none⟩) 1 1, .int .u32 100, .int .i64 0, .int .u32 r2]) rfl rfl (by kernel_rfl) (by kernel_rfl) (by kernel_rfl) (fun _ _ _ h => nomatch h.1) (Or.inl ⟨wanted_plain rfl _, fun w hSw => by kernel_rfl⟩) (by assumption) ?_
            simp only [List.set_cons_zero, List.set_cons_succ]
            refine wpAnyH_ready (rs := [9]) (by kernel_rfl) (by simp) ?_
            refine AllReadyH.cons (o := _) rfl (fun K hK => ?_) ?_
            · skip
              refine step_skip' (w' := V5.setRow T #[.slice A3 (n + 1) c3, .int .i64 0, .int .i32 2, .slice (some ⟨ri, 0, none⟩) 1 1, .slice (some ⟨ro, 0, none⟩) 1 1, .int .u32 100, .int .i64 0, .int .u32 r2]) rfl rfl (exec_store 37 (.tmp 4) (.tmp 19) rfl rfl rfl (storeAt_row V5 T 37 37 _ #[.slice A3 (n + 1) c3, .int .i64 0, .int .i32 2, .slice (some ⟨ri, 0, none⟩) 1 1, .slice (some ⟨ro, 0, none⟩) 1 1, .int .u32 100, .int .i64 0, .int .u32 r2] B5 info_spend rfl (by simp [Value.oneCell']))) ?_
              have F9 : Fm (M1 T) V5 (V5.setRow T #[.slice A3 (n + 1) c3, .int .i64 0, .int .i32 2, .slice (some ⟨ri, 0, none⟩) 1 1, .slice (some ⟨ro, 0, none⟩) 1 1, .int .u32 100, .int .i64 0, .int .u32 r2]) := Fm.setRow (Fm.refl _ _) _
              refine hK.out _ _ (Blk.fm X5 F9 hxT) (fun hHeld => ?_)
              clear hK K
              refine wpAnyH_done (by kernel_rfl) ?_ _
              exact ⟨rfl, ⟨_, _, _, _, _, _, _, _, _, rfl⟩, A3, c3, Blk.setRow B5 _, own_fm hown5 F9 (fun k hk h => own_blk_ne hown5 B5 (by decide) (by rw [hk, show k = T from h])), Blk.fm R5 F9 hriT, Blk.fm U5 F9 hroT, Below.fm HB5.out F9 (by have := HB5.out.size; omega) hTb⟩
            exact AllReadyH.nil
          exact AllReadyH.nil
        exact AllReadyH.nil
      exact AllReadyH.nil
    exact AllReadyH.nil
  rintro e a' W6 ⟨rfl, ⟨x11, x12, x13, x14, x15, x16, x17, x18, x19, rfl⟩, A3, c3, hT6, ho6, hr6, hu6, hb6⟩
  subst hTT
  go_wp2
  exact bodyPost_ret (v := .agg #[.slice A3 (n + 1) c3, .int .i64 0, .int .i32 2, .slice (some ⟨ri, 0, none⟩) 1 1, .slice (some ⟨ro, 0, none⟩) 1 1, .int .u32 100, .int .i64 0, .int .u32 r2]) (results_cell_row rfl _ _ w.heap.size _ _ _ _ rfl hT6 Tryz.underlying37 rfl info_spend) rfl ⟨A3, c3, ri, ro, 1, 1, rfl, by rw [bv_append]; exact ho6, hr6, hu6, hb6⟩
theorem alone_any (w : World) (A : Option Addr) (n c : Nat) (bs : List UInt8) (h : Rd 0 w (.slice A n c) bs) (hn : n ≤ 9000) :
    Calls Tryz.prog 7 #[.slice A n c, .int .u32 8] w fun e w' => ∃ A' c' ri ro c1 c2, e = .returned (.agg #[.slice A' (n + 1) c', .int .i64 0, .int .i32 2, .slice (some ⟨ri, 0, none⟩) 1 c1, .slice (some ⟨ro, 0, none⟩) 1 c2, .int .u32 100, .int .i64 0, .int .u32 8]) ∧
      w'.ownsRow w.heap.size 5 1 (.slice A' (n + 1) c') (n + 1) (bv (bs ++ [81])) ∧ Blk w' ri 63 inCells.toArray ∧ Blk w' ro 65 #[.int .i64 1, .slice none 0 0] ∧ Below w.heap.size w w' :=
  alone_rule w 8 8 (by decide) A n c bs h (by omega)
end Go.Proofs.YtafpgikhcjildaaGreatDoor
