/- A shallow copy of a transaction. (Printed by gen_shc.py.) -/
import Derived.Test.YtkgihpebghmnbaaGreatDoorShr
import Derived.Test.YtkgihpebghmnbaaGreatDoorG22
namespace Go.Proofs.YtkgihpebghmnbaaGreatDoor
open Go.RowKit Go.Proofs

set_option maxRecDepth 100000

theorem info_mtx : (Tryz.prog.info? 79).map (·.size) = some 4 := by kernel_rfl
theorem info_pin2 : (Tryz.prog.info? 80).map (fun i => (i.zero, i.size, i.bytes)) = some (some (.pointer none), 1, 8) := by kernel_rfl
theorem info_pout2 : (Tryz.prog.info? 88).map (fun i => (i.zero, i.size, i.bytes)) = some (some (.pointer none), 1, 8) := by kernel_rfl
theorem info_rin : (Tryz.prog.info? 87).map (fun i => (i.zero.isSome, i.size, decide (i.bytes ≤ 1000))) = some (true, 36, true) := by kernel_rfl
theorem info_rout : (Tryz.prog.info? 90).map (fun i => (i.zero.isSome, i.size, decide (i.bytes ≤ 1000))) = some (true, 2, true) := by kernel_rfl

theorem make_any (ts te : TypeId) (size : Nat) (ht : Tryz.prog.underlying ts = some (.slice te)) (hi : (Tryz.prog.info? te).map (fun i => (i.zero.isSome, i.size, decide (i.bytes ≤ 1000))) = some (true, size, true)) (n : Nat) (hn : n ≤ 1000000) :
    ∃ C : Array Value, C.size = n * size ∧ ∀ w : World, (Instr.makeSlice ts (.int .i64 n) (.int .i64 n)).run Tryz.prog w = .ok (.slice (some ⟨w.heap.size, 0, none⟩) n n) (w.alloc (.cells C te)) := by
  cases hq : Tryz.prog.info? te with
  | none => rw [hq] at hi; simp at hi
  | some i =>
    rw [hq] at hi
    simp only [Option.map_some, Option.some.injEq, Prod.mk.injEq, decide_eq_true_eq] at hi
    obtain ⟨h1, h2, h3⟩ := hi
    obtain ⟨z, hz⟩ := Option.isSome_iff_exists.1 h1
    refine ⟨madeCells z.cells (n * i.size), by rw [size_madeCells, h2], fun w => ?_⟩
    have hb : (i.bytes : Int) * (n : Int) ≤ 281474976710656 := by
      have : i.bytes * n ≤ 1000 * 1000000 := Nat.mul_le_mul h3 hn
      have h : ((i.bytes * n : Nat) : Int) ≤ 1000 * 1000000 := by omega
      rw [Int.natCast_mul] at h
      omega
    have := run_make (P := Tryz.prog) w ts te i z ht hq hz .i64 .i64 n n (by omega) (Int.le_refl _) hb (by omega)
    rw [Int.toNat_natCast] at this
    exact this

/-- Element j of the row is the j-th input, or output. -/
def PIn (B : Nat) (w : World) (ts : List TI) (j : Nat) (cs : List Value) : Prop := ∃ ti ci, ts[j]? = some ti ∧ cs = Ci.cells ci ∧ CiIs B w ci ti
def POut (B : Nat) (w : World) (ts : List TO) (j : Nat) (cs : List Value) : Prop := ∃ ti co, ts[j]? = some ti ∧ cs = Co.cells co ∧ CoIs B w co ti
theorem ci_one {B : Nat} {w : World} {t : TI} (c : Ci) (h : CiIs B w c t) : ∀ v ∈ c.cells, v.oneCell' = true := by
  obtain ⟨-, -, -, -, A, cc, h5, -⟩ := h
  intro v hv
  simp only [Ci.cells, List.mem_append, List.mem_cons, List.not_mem_nil, or_false] at hv
  rcases hv with hv | rfl | rfl | rfl | rfl
  · exact bv_ones _ v hv
  · rfl
  · rw [h5]; rfl
  · exact c.hw
  · rfl
theorem co_one {B : Nat} {w : World} {t : TO} (c : Co) (h : CoIs B w c t) : ∀ v ∈ c.cells, v.oneCell' = true := by
  obtain ⟨-, -, A, cc, h5, -⟩ := h
  intro v hv
  simp only [Co.cells, List.mem_cons, List.not_mem_nil, or_false] at hv
  rcases hv with rfl | rfl
  · rfl
  · rw [h5]; rfl
def M2n (a b : Nat) (k : Nat) : Prop := k = a ∨ k = b

/-- What the copy leaves. -/
def ShDone (B : Nat) (w : World) (t : TX) (e : Ending) (w' : World) : Prop := ∃ P Q R S CP CR CQ CS,
  e = .returned (.agg #[.int .i32 t.ver, .slice (some ⟨P, 0, none⟩) t.ins.length t.ins.length, .slice (some ⟨Q, 0, none⟩) t.outs.length t.outs.length, .int .u32 t.lock]) ∧
  w.heap.size ≤ P ∧ w.heap.size ≤ Q ∧ w.heap.size ≤ R ∧ w.heap.size ≤ S ∧
  Blk w' P 80 CP ∧ CP.size = t.ins.length ∧ (∀ j, j < t.ins.length → CP[j]? = some (.pointer (some ⟨R, j * 36, none⟩))) ∧
  Blk w' R 87 CR ∧ CR.size = t.ins.length * 36 ∧ RowsOf 36 CR t.ins.length (PIn B w t.ins) ∧
  Blk w' Q 88 CQ ∧ CQ.size = t.outs.length ∧ (∀ j, j < t.outs.length → CQ[j]? = some (.pointer (some ⟨S, j * 2, none⟩))) ∧
  Blk w' S 90 CS ∧ CS.size = t.outs.length * 2 ∧ RowsOf 2 CS t.outs.length (POut B w t.outs) ∧ Below w.heap.size w w'

/-- What the first statement of the copy leaves. -/
def ShP (w : World) (g T P Q ni no : Nat) (ver lock : Int) (W : World) : Prop :=
  Blk W g 79 #[.int .i32 0, .slice none 0 0, .slice none 0 0, .int .u32 0] ∧ Blk W T 79 #[.int .i32 ver, .slice (some ⟨P, 0, none⟩) ni ni, .slice (some ⟨Q, 0, none⟩) no no, .int .u32 lock] ∧
    (∃ CP, Blk W P 80 CP ∧ CP.size = ni) ∧ (∃ CQ, Blk W Q 88 CQ ∧ CQ.size = no) ∧ Below w.heap.size w W ∧ g < T ∧ w.heap.size ≤ g ∧ w.heap.size ≤ P ∧ w.heap.size ≤ Q



set_option maxHeartbeats 4000000 in
theorem shallow_any (B : Nat) (w : World) (m q : Nat) (t : TX) (ht : TxAt B w m q t) (hB : B ≤ w.heap.size) (hi : t.ins.length ≤ 1000000) (ho : t.outs.length ≤ 1000000) :
    Calls Tryz.prog 44 #[.pointer (some ⟨m, q, none⟩)] w (ShDone B w t) := by
  have hm := ht.lt
  obtain ⟨Ai, ci, Ao, co, vi, vo, h1, h2, h3, h4, h5, h6, h7⟩ := ht.ex
  have H1 := Lib.hid h1
  have H2 := Lib.hid h2
  have H3 := Lib.hid h3
  have H4 := Lib.hid h4
  have H5 := Lib.hid h5
  have H6 := Lib.hid h6
  have H7 := Lib.hid h7
  clear ht h1 h2 h3 h4 h5 h6 h7
  generalize hNI : t.ins.length = ni at *
  generalize hNO : t.outs.length = no at *
  obtain ⟨CP, hCP, mkP⟩ := make_any 76 80 1 Tryz.underlying76 (by kernel_rfl) ni hi
  obtain ⟨CQ, hCQ, mkQ⟩ := make_any 77 88 1 Tryz.underlying77 (by kernel_rfl) no ho
  rw [Nat.mul_one] at hCP hCQ
  have hg1 := Blk.new w 79 #[.int .i32 0, .slice none 0 0, .slice none 0 0, .int .u32 0]
  have hb1 := (Below.refl w.heap.size w).alloc (Nat.le_refl _) (.cells #[.int .i32 0, .slice none 0 0, .slice none 0 0, .int .u32 0] 79)
  have hm1 := H1.out.below hb1 H1.out.lt
  have hmT : m < w.heap.size := H1.out.lt
  have hgw : w.heap.size ≤ w.heap.size := Nat.le_refl _
  have HG := Lib.hid hg1
  have HB := Lib.hid hb1
  have HM := Lib.hid hm1
  have HmkP := Lib.hid mkP
  have HmkQ := Lib.hid mkQ
  clear hg1 hb1 hm1 mkP mkQ
  go_enter Tryz.func44, Tryz.ntmps44
  go_upto_region 1 with fail
  generalize hgg : w.heap.size = g at HG ⊢
  have hgw : w.heap.size ≤ g := Nat.le_of_eq hgg
  generalize w.alloc (.cells #[.int .i32 0, .slice none 0 0, .slice none 0 0, .int .u32 0] 79) = w1 at *
  trace_state
  refine Code.wp_mono (Q := fun e a' w' => e = .normal ∧ ∃ T P Q, (∃ x10 x11 x12 x13 x14 x15 x16 x17 x18 x19 x20 x21 x22 x23 x24 x25 x26 x27 x28 x29 x30 : Value, a' = ⟨#[.pointer (some ⟨m, q, none⟩), undef, .pointer (some ⟨g, 0, none⟩), .pointer (some ⟨T, 0, none⟩), undef, undef, undef, undef, undef, undef, x10, x11, x12, x13, x14, x15, x16, x17, x18, x19, x20, x21, x22, x23, x24, x25, x26, x27, x28, x29, x30, undef, undef, undef, undef, undef, undef, undef, undef, undef, undef, undef, undef, undef, undef, undef, undef, undef, undef, undef, undef, undef, undef, undef, undef, undef, undef, undef, undef, undef, undef, undef, undef, undef, undef, undef, undef, undef, undef, undef, undef, undef, undef, undef, undef, undef, undef, undef, undef, undef, undef, undef, undef, undef, undef, undef, undef, undef, undef, undef, undef, undef], []⟩) ∧ ShP w g T P Q ni no t.ver t.lock w') ?_ ?_
  rotate_left
  · have HMc : Tx4 w1.drew m q _ _ _ _ := ⟨HM.out.c0, HM.out.c1, HM.out.c2, HM.out.c3⟩
    have HGc : Blk w1.drew g _ _ := HG.out
    have HF0 : Below w.heap.size w w1.drew := HB.out.drew
    have mkP := HmkP.out
    have mkQ := HmkQ.out
    refine wp_region_held_drew (S := fun w' => w'.cell? ⟨m, q, none⟩ = some (.int .i32 t.ver) ∧ w'.cell? ⟨m, q + 1, none⟩ = some (.slice Ai ni ci) ∧ w'.cell? ⟨m, q + 2, none⟩ = some (.slice Ao no co) ∧ w'.cell? ⟨m, q + 3, none⟩ = some (.int .u32 t.lock)) (by kernel_rfl) (⟨HMc.c0, HMc.c1, HMc.c2, HMc.c3⟩) (fun hHeld => ?_)
    refine held_take 0 10 (.pointer (some ⟨m, q, none⟩)) rfl rfl (by kernel_rfl) (by kernel_rfl) (by kernel_rfl) (fun _ _ _ h => nomatch h.1) (Or.inl ⟨wanted_plain rfl _, fun w hSw => by kernel_rfl⟩) (by assumption) ?_
    simp only [List.set_cons_zero, List.set_cons_succ]
    refine held_take 1 11 (.pointer (some ⟨m, q, none⟩)) rfl rfl (by kernel_rfl) (by kernel_rfl) (by kernel_rfl) (fun _ _ _ h => nomatch h.1) (Or.inl ⟨wanted_plain rfl _, fun w hSw => by kernel_rfl⟩) (by assumption) ?_
    simp only [List.set_cons_zero, List.set_cons_succ]
    refine held_take 2 12 (.pointer (some ⟨m, q, none⟩)) rfl rfl (by kernel_rfl) (by kernel_rfl) (by kernel_rfl) (fun _ _ _ h => nomatch h.1) (Or.inl ⟨wanted_plain rfl _, fun w hSw => by kernel_rfl⟩) (by assumption) ?_
    simp only [List.set_cons_zero, List.set_cons_succ]
    refine held_take 3 13 (.int .i32 t.ver) rfl rfl (by kernel_rfl) (by kernel_rfl) (by kernel_rfl) (fun _ _ _ h => nomatch h.1) (Or.inl ⟨wanted_plain rfl _, fun w hSw => exec_load 21 (.tmp 12) rfl rfl (by (obtain ⟨g1, g2, g3, g4⟩ := hSw; go_simp))⟩) (by assumption) ?_
    simp only [List.set_cons_zero, List.set_cons_succ]
    refine held_take 4 14 (.pointer (some ⟨m, q, none⟩)) rfl rfl (by kernel_rfl) (by kernel_rfl) (by kernel_rfl) (fun _ _ _ h => nomatch h.1) (Or.inl ⟨wanted_plain rfl _, fun w hSw => by kernel_rfl⟩) (by assumption) ?_
    simp only [List.set_cons_zero, List.set_cons_succ]
    refine held_take 5 15 (.pointer (some ⟨m, q, none⟩)) rfl rfl (by kernel_rfl) (by kernel_rfl) (by kernel_rfl) (fun _ _ _ h => nomatch h.1) (Or.inl ⟨wanted_plain rfl _, fun w hSw => by kernel_rfl⟩) (by assumption) ?_
    simp only [List.set_cons_zero, List.set_cons_succ]
    refine held_take 6 16 (.pointer (some ⟨m, q + 1, none⟩)) rfl rfl (by kernel_rfl) (by kernel_rfl) (by kernel_rfl) (fun _ _ _ h => nomatch h.1) (Or.inl ⟨wanted_plain rfl _, fun w hSw => by kernel_rfl⟩) (by assumption) ?_
    simp only [List.set_cons_zero, List.set_cons_succ]
    refine held_take 7 17 (.slice Ai ni ci) rfl rfl (by kernel_rfl) (by kernel_rfl) (by kernel_rfl) (fun _ _ _ h => nomatch h.1) (Or.inl ⟨wanted_plain rfl _, fun w hSw => exec_load 76 (.tmp 16) rfl rfl (by (obtain ⟨g1, g2, g3, g4⟩ := hSw; go_simp))⟩) (by assumption) ?_
    simp only [List.set_cons_zero, List.set_cons_succ]
    refine held_take 8 18 (.int .i64 ni) rfl rfl (by kernel_rfl) (by kernel_rfl) (by kernel_rfl) (fun _ _ _ h => nomatch h.1) (Or.inl ⟨wanted_plain rfl _, fun w hSw => by kernel_rfl⟩) (by assumption) ?_
    simp only [List.set_cons_zero, List.set_cons_succ]
    refine held_take 10 20 (.pointer (some ⟨m, q, none⟩)) rfl rfl (by kernel_rfl) (by kernel_rfl) (by kernel_rfl) (fun _ _ _ h => nomatch h.1) (Or.inl ⟨wanted_plain rfl _, fun w hSw => by kernel_rfl⟩) (by assumption) ?_
    simp only [List.set_cons_zero, List.set_cons_succ]
    refine held_take 11 21 (.pointer (some ⟨m, q, none⟩)) rfl rfl (by kernel_rfl) (by kernel_rfl) (by kernel_rfl) (fun _ _ _ h => nomatch h.1) (Or.inl ⟨wanted_plain rfl _, fun w hSw => by kernel_rfl⟩) (by assumption) ?_
    simp only [List.set_cons_zero, List.set_cons_succ]
    refine held_take 12 22 (.pointer (some ⟨m, q + 2, none⟩)) rfl rfl (by kernel_rfl) (by kernel_rfl) (by kernel_rfl) (fun _ _ _ h => nomatch h.1) (Or.inl ⟨wanted_plain rfl _, fun w hSw => by kernel_rfl⟩) (by assumption) ?_
    simp only [List.set_cons_zero, List.set_cons_succ]
    refine held_take 13 23 (.slice Ao no co) rfl rfl (by kernel_rfl) (by kernel_rfl) (by kernel_rfl) (fun _ _ _ h => nomatch h.1) (Or.inl ⟨wanted_plain rfl _, fun w hSw => exec_load 77 (.tmp 22) rfl rfl (by (obtain ⟨g1, g2, g3, g4⟩ := hSw; go_simp))⟩) (by assumption) ?_
    simp only [List.set_cons_zero, List.set_cons_succ]
    refine held_take 14 24 (.int .i64 no) rfl rfl (by kernel_rfl) (by kernel_rfl) (by kernel_rfl) (fun _ _ _ h => nomatch h.1) (Or.inl ⟨wanted_plain rfl _, fun w hSw => by kernel_rfl⟩) (by assumption) ?_
    simp only [List.set_cons_zero, List.set_cons_succ]
    refine held_take 16 26 (.pointer (some ⟨m, q, none⟩)) rfl rfl (by kernel_rfl) (by kernel_rfl) (by kernel_rfl) (fun _ _ _ h => nomatch h.1) (Or.inl ⟨wanted_plain rfl _, fun w hSw => by kernel_rfl⟩) (by assumption) ?_
    simp only [List.set_cons_zero, List.set_cons_succ]
    refine held_take 17 27 (.pointer (some ⟨m, q, none⟩)) rfl rfl (by kernel_rfl) (by kernel_rfl) (by kernel_rfl) (fun _ _ _ h => nomatch h.1) (Or.inl ⟨wanted_plain rfl _, fun w hSw => by kernel_rfl⟩) (by assumption) ?_
    simp only [List.set_cons_zero, List.set_cons_succ]
    refine held_take 18 28 (.pointer (some ⟨m, q + 3, none⟩)) rfl rfl (by kernel_rfl) (by kernel_rfl) (by kernel_rfl) (fun _ _ _ h => nomatch h.1) (Or.inl ⟨wanted_plain rfl _, fun w hSw => by kernel_rfl⟩) (by assumption) ?_
    simp only [List.set_cons_zero, List.set_cons_succ]
    refine held_take 19 29 (.int .u32 t.lock) rfl rfl (by kernel_rfl) (by kernel_rfl) (by kernel_rfl) (fun _ _ _ h => nomatch h.1) (Or.inl ⟨wanted_plain rfl _, fun w hSw => exec_load 25 (.tmp 28) rfl rfl (by (obtain ⟨g1, g2, g3, g4⟩ := hSw; go_simp))⟩) (by assumption) ?_
    simp only [List.set_cons_zero, List.set_cons_succ]
    refine wpAnyH_ready (rs := [9, 15, 21]) (by kernel_rfl) (by simp) ?_
    refine AllReadyH.cons (o := _) rfl (fun K hK => ?_) ?_
    · skip
      refine step_val 19 rfl rfl (exec_make 76 (.tmp 18) (.tmp 18) rfl rfl rfl (mkP w1.drew)) ?_
      have NP := Blk.new w1.drew 80 CP
      have hzP := HF0.size
      have F2 := Below.alloc HF0 HF0.size (.cells CP 80)
      replace HMc := Tx4.alloc HMc (.cells CP 80)
      replace HGc := Blk.alloc HGc (.cells CP 80)
      generalize w1.drew.heap.size = P at *
      generalize World.alloc w1.drew (.cells CP 80) = W2 at *
      refine hK.out _ _ (⟨HMc.c0, HMc.c1, HMc.c2, HMc.c3⟩) (fun hHeld => ?_)
      clear hK K
      try simp only [List.set_cons_zero, List.set_cons_succ]
      refine wpAnyH_ready (rs := [15, 21]) (by kernel_rfl) (by simp) ?_
      refine AllReadyH.cons (o := _) rfl (fun K hK => ?_) ?_
      · skip
        refine step_val 25 rfl rfl (exec_make 77 (.tmp 24) (.tmp 24) rfl rfl rfl (mkQ W2)) ?_
        have NQ := Blk.new W2 88 CQ
        have hzQ := F2.size
        have F3 := Below.alloc F2 F2.size (.cells CQ 88)
        replace HMc := Tx4.alloc HMc (.cells CQ 88)
        replace HGc := Blk.alloc HGc (.cells CQ 88)
        replace NP := Blk.alloc NP (.cells CQ 88)
        generalize W2.heap.size = Q at *
        generalize World.alloc W2 (.cells CQ 88) = W3 at *
        refine hK.out _ _ (⟨HMc.c0, HMc.c1, HMc.c2, HMc.c3⟩) (fun hHeld => ?_)
        clear hK K
        try simp only [List.set_cons_zero, List.set_cons_succ]
        refine held_take 20 30 (.agg #[.int .i32 t.ver, .slice (some ⟨P, 0, none⟩) ni ni, .slice (some ⟨Q, 0, none⟩) no no, .int .u32 t.lock]) rfl rfl (by kernel_rfl) (by kernel_rfl) (by kernel_rfl) (fun _ _ _ h => nomatch h.1) (Or.inl ⟨wanted_plain rfl _, fun w hSw => exec_build 79 _ rfl rfl (by kernel_rfl)⟩) (by assumption) ?_
        simp only [List.set_cons_zero, List.set_cons_succ]
        refine wpAnyH_ready (rs := [21]) (by kernel_rfl) (by simp) ?_
        refine AllReadyH.cons (o := _) rfl (fun K hK => ?_) ?_
        · skip
          have hgT := HGc.lt
          refine step_val 3 (v := .pointer (some ⟨W3.heap.size, 0, none⟩)) (w' := World.alloc W3 (.cells #[.int .i32 0, .slice none 0 0, .slice none 0 0, .int .u32 0] 79)) rfl rfl (by kernel_rfl) ?_
          have NT := Blk.new W3 79 #[.int .i32 0, .slice none 0 0, .slice none 0 0, .int .u32 0]
          have hzT := F3.size
          have F4 := Below.alloc F3 F3.size (.cells #[.int .i32 0, .slice none 0 0, .slice none 0 0, .int .u32 0] 79)
          replace HMc := Tx4.alloc HMc (.cells #[.int .i32 0, .slice none 0 0, .slice none 0 0, .int .u32 0] 79)
          replace HGc := Blk.alloc HGc (.cells #[.int .i32 0, .slice none 0 0, .slice none 0 0, .int .u32 0] 79)
          replace NP := Blk.alloc NP (.cells #[.int .i32 0, .slice none 0 0, .slice none 0 0, .int .u32 0] 79)
          replace NQ := Blk.alloc NQ (.cells #[.int .i32 0, .slice none 0 0, .slice none 0 0, .int .u32 0] 79)
          generalize W3.heap.size = T at *
          generalize World.alloc W3 (.cells #[.int .i32 0, .slice none 0 0, .slice none 0 0, .int .u32 0] 79) = W4 at *
          refine hK.out _ _ (⟨HMc.c0, HMc.c1, HMc.c2, HMc.c3⟩) (fun hHeld => ?_)
          clear hK K
          try simp only [List.set_cons_zero, List.set_cons_succ]
          refine wpAnyH_ready (rs := [22]) (by kernel_rfl) (by simp) ?_
          refine AllReadyH.cons (o := _) rfl (fun K hK => ?_) ?_
          · skip
            have hst := storeAt_row (P := Tryz.prog) W4 T 79 79 _ #[.int .i32 t.ver, .slice (some ⟨P, 0, none⟩) ni ni, .slice (some ⟨Q, 0, none⟩) no no, .int .u32 t.lock] NT info_mtx rfl (by kernel_rfl)
            refine step_skip' rfl rfl (exec_store 79 (.tmp 3) (.tmp 30) rfl rfl rfl hst) ?_
            have hfm : Fm (M1 T) W4 (World.setRow W4 T #[.int .i32 t.ver, .slice (some ⟨P, 0, none⟩) ni ni, .slice (some ⟨Q, 0, none⟩) no no, .int .u32 t.lock]) := cFm_setRow (Fm.refl _ _) _
            have NTs := Blk.setRow NT #[.int .i32 t.ver, .slice (some ⟨P, 0, none⟩) ni ni, .slice (some ⟨Q, 0, none⟩) no no, .int .u32 t.lock]
            have NPs := Blk.fm NP hfm (show ¬ M1 T P from Blk.ne_ NP NT (by decide))
            have NQs := Blk.fm NQ hfm (show ¬ M1 T Q from Blk.ne_ NQ NT (by decide))
            have HGs := Blk.fm HGc hfm (show ¬ M1 T g from Nat.ne_of_lt hgT)
            have HMs := Tx4.far HMc hfm (show ¬ M1 T m by show ¬ m = T; have := hmT; omega)
            have Fs := Below.fm F4 hfm F4.size (fun j hj (hm : j = T) => by omega)
            refine hK.out _ _ (⟨HMs.c0, HMs.c1, HMs.c2, HMs.c3⟩) (fun hHeld => ?_)
            clear hK K
            try simp only [List.set_cons_zero, List.set_cons_succ]
            refine wpAnyH_done (by kernel_rfl) ?_ _
            exact ⟨rfl, T, P, Q, ⟨_, _, _, _, _, _, _, _, _, _, _, _, _, _, _, _, _, _, _, _, _, rfl⟩, HGs, NTs, ⟨_, NPs, hCP⟩, ⟨_, NQs, hCQ⟩, Fs, hgT, hgw, hzP, hzQ⟩
          exact AllReadyH.nil
        exact AllReadyH.nil
      refine AllReadyH.cons (o := _) rfl (fun K hK => ?_) ?_
      · skip
        have hgT := HGc.lt
        refine step_val 3 (v := .pointer (some ⟨W2.heap.size, 0, none⟩)) (w' := World.alloc W2 (.cells #[.int .i32 0, .slice none 0 0, .slice none 0 0, .int .u32 0] 79)) rfl rfl (by kernel_rfl) ?_
        have NT := Blk.new W2 79 #[.int .i32 0, .slice none 0 0, .slice none 0 0, .int .u32 0]
        have hzT := F2.size
        have F3 := Below.alloc F2 F2.size (.cells #[.int .i32 0, .slice none 0 0, .slice none 0 0, .int .u32 0] 79)
        replace HMc := Tx4.alloc HMc (.cells #[.int .i32 0, .slice none 0 0, .slice none 0 0, .int .u32 0] 79)
        replace HGc := Blk.alloc HGc (.cells #[.int .i32 0, .slice none 0 0, .slice none 0 0, .int .u32 0] 79)
        replace NP := Blk.alloc NP (.cells #[.int .i32 0, .slice none 0 0, .slice none 0 0, .int .u32 0] 79)
        generalize W2.heap.size = T at *
        generalize World.alloc W2 (.cells #[.int .i32 0, .slice none 0 0, .slice none 0 0, .int .u32 0] 79) = W3 at *
        refine hK.out _ _ (⟨HMc.c0, HMc.c1, HMc.c2, HMc.c3⟩) (fun hHeld => ?_)
        clear hK K
        try simp only [List.set_cons_zero, List.set_cons_succ]
        refine wpAnyH_ready (rs := [15]) (by kernel_rfl) (by simp) ?_
        refine AllReadyH.cons (o := _) rfl (fun K hK => ?_) ?_
        · skip
          refine step_val 25 rfl rfl (exec_make 77 (.tmp 24) (.tmp 24) rfl rfl rfl (mkQ W3)) ?_
          have NQ := Blk.new W3 88 CQ
          have hzQ := F3.size
          have F4 := Below.alloc F3 F3.size (.cells CQ 88)
          replace HMc := Tx4.alloc HMc (.cells CQ 88)
          replace HGc := Blk.alloc HGc (.cells CQ 88)
          replace NP := Blk.alloc NP (.cells CQ 88)
          replace NT := Blk.alloc NT (.cells CQ 88)
          generalize W3.heap.size = Q at *
          generalize World.alloc W3 (.cells CQ 88) = W4 at *
          refine hK.out _ _ (⟨HMc.c0, HMc.c1, HMc.c2, HMc.c3⟩) (fun hHeld => ?_)
          clear hK K
          try simp only [List.set_cons_zero, List.set_cons_succ]
          refine held_take 20 30 (.agg #[.int .i32 t.ver, .slice (some ⟨P, 0, none⟩) ni ni, .slice (some ⟨Q, 0, none⟩) no no, .int .u32 t.lock]) rfl rfl (by kernel_rfl) (by kernel_rfl) (by kernel_rfl) (fun _ _ _ h => nomatch h.1) (Or.inl ⟨wanted_plain rfl _, fun w hSw => exec_build 79 _ rfl rfl (by kernel_rfl)⟩) (by assumption) ?_
          simp only [List.set_cons_zero, List.set_cons_succ]
          refine wpAnyH_ready (rs := [22]) (by kernel_rfl) (by simp) ?_
          refine AllReadyH.cons (o := _) rfl (fun K hK => ?_) ?_
          · skip
            have hst := storeAt_row (P := Tryz.prog) W4 T 79 79 _ #[.int .i32 t.ver, .slice (some ⟨P, 0, none⟩) ni ni, .slice (some ⟨Q, 0, none⟩) no no, .int .u32 t.lock] NT info_mtx rfl (by kernel_rfl)
            refine step_skip' rfl rfl (exec_store 79 (.tmp 3) (.tmp 30) rfl rfl rfl hst) ?_
            have hfm : Fm (M1 T) W4 (World.setRow W4 T #[.int .i32 t.ver, .slice (some ⟨P, 0, none⟩) ni ni, .slice (some ⟨Q, 0, none⟩) no no, .int .u32 t.lock]) := cFm_setRow (Fm.refl _ _) _
            have NTs := Blk.setRow NT #[.int .i32 t.ver, .slice (some ⟨P, 0, none⟩) ni ni, .slice (some ⟨Q, 0, none⟩) no no, .int .u32 t.lock]
            have NPs := Blk.fm NP hfm (show ¬ M1 T P from Blk.ne_ NP NT (by decide))
            have NQs := Blk.fm NQ hfm (show ¬ M1 T Q from Blk.ne_ NQ NT (by decide))
            have HGs := Blk.fm HGc hfm (show ¬ M1 T g from Nat.ne_of_lt hgT)
            have HMs := Tx4.far HMc hfm (show ¬ M1 T m by show ¬ m = T; have := hmT; omega)
            have Fs := Below.fm F4 hfm F4.size (fun j hj (hm : j = T) => by omega)
            refine hK.out _ _ (⟨HMs.c0, HMs.c1, HMs.c2, HMs.c3⟩) (fun hHeld => ?_)
            clear hK K
            try simp only [List.set_cons_zero, List.set_cons_succ]
            refine wpAnyH_done (by kernel_rfl) ?_ _
            exact ⟨rfl, T, P, Q, ⟨_, _, _, _, _, _, _, _, _, _, _, _, _, _, _, _, _, _, _, _, _, rfl⟩, HGs, NTs, ⟨_, NPs, hCP⟩, ⟨_, NQs, hCQ⟩, Fs, hgT, hgw, hzP, hzQ⟩
          exact AllReadyH.nil
        exact AllReadyH.nil
      exact AllReadyH.nil
    refine AllReadyH.cons (o := _) rfl (fun K hK => ?_) ?_
    · skip
      refine step_val 25 rfl rfl (exec_make 77 (.tmp 24) (.tmp 24) rfl rfl rfl (mkQ w1.drew)) ?_
      have NQ := Blk.new w1.drew 88 CQ
      have hzQ := HF0.size
      have F2 := Below.alloc HF0 HF0.size (.cells CQ 88)
      replace HMc := Tx4.alloc HMc (.cells CQ 88)
      replace HGc := Blk.alloc HGc (.cells CQ 88)
      generalize w1.drew.heap.size = Q at *
      generalize World.alloc w1.drew (.cells CQ 88) = W2 at *
      refine hK.out _ _ (⟨HMc.c0, HMc.c1, HMc.c2, HMc.c3⟩) (fun hHeld => ?_)
      clear hK K
      try simp only [List.set_cons_zero, List.set_cons_succ]
      refine wpAnyH_ready (rs := [9, 21]) (by kernel_rfl) (by simp) ?_
      refine AllReadyH.cons (o := _) rfl (fun K hK => ?_) ?_
      · skip
        refine step_val 19 rfl rfl (exec_make 76 (.tmp 18) (.tmp 18) rfl rfl rfl (mkP W2)) ?_
        have NP := Blk.new W2 80 CP
        have hzP := F2.size
        have F3 := Below.alloc F2 F2.size (.cells CP 80)
        replace HMc := Tx4.alloc HMc (.cells CP 80)
        replace HGc := Blk.alloc HGc (.cells CP 80)
        replace NQ := Blk.alloc NQ (.cells CP 80)
        generalize W2.heap.size = P at *
        generalize World.alloc W2 (.cells CP 80) = W3 at *
        refine hK.out _ _ (⟨HMc.c0, HMc.c1, HMc.c2, HMc.c3⟩) (fun hHeld => ?_)
        clear hK K
        try simp only [List.set_cons_zero, List.set_cons_succ]
        refine held_take 20 30 (.agg #[.int .i32 t.ver, .slice (some ⟨P, 0, none⟩) ni ni, .slice (some ⟨Q, 0, none⟩) no no, .int .u32 t.lock]) rfl rfl (by kernel_rfl) (by kernel_rfl) (by kernel_rfl) (fun _ _ _ h => nomatch h.1) (Or.inl ⟨wanted_plain rfl _, fun w hSw => exec_build 79 _ rfl rfl (by kernel_rfl)⟩) (by assumption) ?_
        simp only [List.set_cons_zero, List.set_cons_succ]
        refine wpAnyH_ready (rs := [21]) (by kernel_rfl) (by simp) ?_
        refine AllReadyH.cons (o := _) rfl (fun K hK => ?_) ?_
        · skip
          have hgT := HGc.lt
          refine step_val 3 (v := .pointer (some ⟨W3.heap.size, 0, none⟩)) (w' := World.alloc W3 (.cells #[.int .i32 0, .slice none 0 0, .slice none 0 0, .int .u32 0] 79)) rfl rfl (by kernel_rfl) ?_
          have NT := Blk.new W3 79 #[.int .i32 0, .slice none 0 0, .slice none 0 0, .int .u32 0]
          have hzT := F3.size
          have F4 := Below.alloc F3 F3.size (.cells #[.int .i32 0, .slice none 0 0, .slice none 0 0, .int .u32 0] 79)
          replace HMc := Tx4.alloc HMc (.cells #[.int .i32 0, .slice none 0 0, .slice none 0 0, .int .u32 0] 79)
          replace HGc := Blk.alloc HGc (.cells #[.int .i32 0, .slice none 0 0, .slice none 0 0, .int .u32 0] 79)
          replace NQ := Blk.alloc NQ (.cells #[.int .i32 0, .slice none 0 0, .slice none 0 0, .int .u32 0] 79)
          replace NP := Blk.alloc NP (.cells #[.int .i32 0, .slice none 0 0, .slice none 0 0, .int .u32 0] 79)
          generalize W3.heap.size = T at *
          generalize World.alloc W3 (.cells #[.int .i32 0, .slice none 0 0, .slice none 0 0, .int .u32 0] 79) = W4 at *
          refine hK.out _ _ (⟨HMc.c0, HMc.c1, HMc.c2, HMc.c3⟩) (fun hHeld => ?_)
          clear hK K
          try simp only [List.set_cons_zero, List.set_cons_succ]
          refine wpAnyH_ready (rs := [22]) (by kernel_rfl) (by simp) ?_
          refine AllReadyH.cons (o := _) rfl (fun K hK => ?_) ?_
          · skip
            have hst := storeAt_row (P := Tryz.prog) W4 T 79 79 _ #[.int .i32 t.ver, .slice (some ⟨P, 0, none⟩) ni ni, .slice (some ⟨Q, 0, none⟩) no no, .int .u32 t.lock] NT info_mtx rfl (by kernel_rfl)
            refine step_skip' rfl rfl (exec_store 79 (.tmp 3) (.tmp 30) rfl rfl rfl hst) ?_
            have hfm : Fm (M1 T) W4 (World.setRow W4 T #[.int .i32 t.ver, .slice (some ⟨P, 0, none⟩) ni ni, .slice (some ⟨Q, 0, none⟩) no no, .int .u32 t.lock]) := cFm_setRow (Fm.refl _ _) _
            have NTs := Blk.setRow NT #[.int .i32 t.ver, .slice (some ⟨P, 0, none⟩) ni ni, .slice (some ⟨Q, 0, none⟩) no no, .int .u32 t.lock]
            have NPs := Blk.fm NP hfm (show ¬ M1 T P from Blk.ne_ NP NT (by decide))
            have NQs := Blk.fm NQ hfm (show ¬ M1 T Q from Blk.ne_ NQ NT (by decide))
            have HGs := Blk.fm HGc hfm (show ¬ M1 T g from Nat.ne_of_lt hgT)
            have HMs := Tx4.far HMc hfm (show ¬ M1 T m by show ¬ m = T; have := hmT; omega)
            have Fs := Below.fm F4 hfm F4.size (fun j hj (hm : j = T) => by omega)
            refine hK.out _ _ (⟨HMs.c0, HMs.c1, HMs.c2, HMs.c3⟩) (fun hHeld => ?_)
            clear hK K
            try simp only [List.set_cons_zero, List.set_cons_succ]
            refine wpAnyH_done (by kernel_rfl) ?_ _
            exact ⟨rfl, T, P, Q, ⟨_, _, _, _, _, _, _, _, _, _, _, _, _, _, _, _, _, _, _, _, _, rfl⟩, HGs, NTs, ⟨_, NPs, hCP⟩, ⟨_, NQs, hCQ⟩, Fs, hgT, hgw, hzP, hzQ⟩
          exact AllReadyH.nil
        exact AllReadyH.nil
      refine AllReadyH.cons (o := _) rfl (fun K hK => ?_) ?_
      · skip
        have hgT := HGc.lt
        refine step_val 3 (v := .pointer (some ⟨W2.heap.size, 0, none⟩)) (w' := World.alloc W2 (.cells #[.int .i32 0, .slice none 0 0, .slice none 0 0, .int .u32 0] 79)) rfl rfl (by kernel_rfl) ?_
        have NT := Blk.new W2 79 #[.int .i32 0, .slice none 0 0, .slice none 0 0, .int .u32 0]
        have hzT := F2.size
        have F3 := Below.alloc F2 F2.size (.cells #[.int .i32 0, .slice none 0 0, .slice none 0 0, .int .u32 0] 79)
        replace HMc := Tx4.alloc HMc (.cells #[.int .i32 0, .slice none 0 0, .slice none 0 0, .int .u32 0] 79)
        replace HGc := Blk.alloc HGc (.cells #[.int .i32 0, .slice none 0 0, .slice none 0 0, .int .u32 0] 79)
        replace NQ := Blk.alloc NQ (.cells #[.int .i32 0, .slice none 0 0, .slice none 0 0, .int .u32 0] 79)
        generalize W2.heap.size = T at *
        generalize World.alloc W2 (.cells #[.int .i32 0, .slice none 0 0, .slice none 0 0, .int .u32 0] 79) = W3 at *
        refine hK.out _ _ (⟨HMc.c0, HMc.c1, HMc.c2, HMc.c3⟩) (fun hHeld => ?_)
        clear hK K
        try simp only [List.set_cons_zero, List.set_cons_succ]
        refine wpAnyH_ready (rs := [9]) (by kernel_rfl) (by simp) ?_
        refine AllReadyH.cons (o := _) rfl (fun K hK => ?_) ?_
        · skip
          refine step_val 19 rfl rfl (exec_make 76 (.tmp 18) (.tmp 18) rfl rfl rfl (mkP W3)) ?_
          have NP := Blk.new W3 80 CP
          have hzP := F3.size
          have F4 := Below.alloc F3 F3.size (.cells CP 80)
          replace HMc := Tx4.alloc HMc (.cells CP 80)
          replace HGc := Blk.alloc HGc (.cells CP 80)
          replace NQ := Blk.alloc NQ (.cells CP 80)
          replace NT := Blk.alloc NT (.cells CP 80)
          generalize W3.heap.size = P at *
          generalize World.alloc W3 (.cells CP 80) = W4 at *
          refine hK.out _ _ (⟨HMc.c0, HMc.c1, HMc.c2, HMc.c3⟩) (fun hHeld => ?_)
          clear hK K
          try simp only [List.set_cons_zero, List.set_cons_succ]
          refine held_take 20 30 (.agg #[.int .i32 t.ver, .slice (some ⟨P, 0, none⟩) ni ni, .slice (some ⟨Q, 0, none⟩) no no, .int .u32 t.lock]) rfl rfl (by kernel_rfl) (by kernel_rfl) (by kernel_rfl) (fun _ _ _ h => nomatch h.1) (Or.inl ⟨wanted_plain rfl _, fun w hSw => exec_build 79 _ rfl rfl (by kernel_rfl)⟩) (by assumption) ?_
          simp only [List.set_cons_zero, List.set_cons_succ]
          refine wpAnyH_ready (rs := [22]) (by kernel_rfl) (by simp) ?_
          refine AllReadyH.cons (o := _) rfl (fun K hK => ?_) ?_
          · skip
            have hst := storeAt_row (P := Tryz.prog) W4 T 79 79 _ #[.int .i32 t.ver, .slice (some ⟨P, 0, none⟩) ni ni, .slice (some ⟨Q, 0, none⟩) no no, .int .u32 t.lock] NT info_mtx rfl (by kernel_rfl)
            refine step_skip' rfl rfl (exec_store 79 (.tmp 3) (.tmp 30) rfl rfl rfl hst) ?_
            have hfm : Fm (M1 T) W4 (World.setRow W4 T #[.int .i32 t.ver, .slice (some ⟨P, 0, none⟩) ni ni, .slice (some ⟨Q, 0, none⟩) no no, .int .u32 t.lock]) := cFm_setRow (Fm.refl _ _) _
            have NTs := Blk.setRow NT #[.int .i32 t.ver, .slice (some ⟨P, 0, none⟩) ni ni, .slice (some ⟨Q, 0, none⟩) no no, .int .u32 t.lock]
            have NPs := Blk.fm NP hfm (show ¬ M1 T P from Blk.ne_ NP NT (by decide))
            have NQs := Blk.fm NQ hfm (show ¬ M1 T Q from Blk.ne_ NQ NT (by decide))
            have HGs := Blk.fm HGc hfm (show ¬ M1 T g from Nat.ne_of_lt hgT)
            have HMs := Tx4.far HMc hfm (show ¬ M1 T m by show ¬ m = T; have := hmT; omega)
            have Fs := Below.fm F4 hfm F4.size (fun j hj (hm : j = T) => by omega)
            refine hK.out _ _ (⟨HMs.c0, HMs.c1, HMs.c2, HMs.c3⟩) (fun hHeld => ?_)
            clear hK K
            try simp only [List.set_cons_zero, List.set_cons_succ]
            refine wpAnyH_done (by kernel_rfl) ?_ _
            exact ⟨rfl, T, P, Q, ⟨_, _, _, _, _, _, _, _, _, _, _, _, _, _, _, _, _, _, _, _, _, rfl⟩, HGs, NTs, ⟨_, NPs, hCP⟩, ⟨_, NQs, hCQ⟩, Fs, hgT, hgw, hzP, hzQ⟩
          exact AllReadyH.nil
        exact AllReadyH.nil
      exact AllReadyH.nil
    refine AllReadyH.cons (o := _) rfl (fun K hK => ?_) ?_
    · skip
      have hgT := HGc.lt
      refine step_val 3 (v := .pointer (some ⟨w1.drew.heap.size, 0, none⟩)) (w' := World.alloc w1.drew (.cells #[.int .i32 0, .slice none 0 0, .slice none 0 0, .int .u32 0] 79)) rfl rfl (by kernel_rfl) ?_
      have NT := Blk.new w1.drew 79 #[.int .i32 0, .slice none 0 0, .slice none 0 0, .int .u32 0]
      have hzT := HF0.size
      have F2 := Below.alloc HF0 HF0.size (.cells #[.int .i32 0, .slice none 0 0, .slice none 0 0, .int .u32 0] 79)
      replace HMc := Tx4.alloc HMc (.cells #[.int .i32 0, .slice none 0 0, .slice none 0 0, .int .u32 0] 79)
      replace HGc := Blk.alloc HGc (.cells #[.int .i32 0, .slice none 0 0, .slice none 0 0, .int .u32 0] 79)
      generalize w1.drew.heap.size = T at *
      generalize World.alloc w1.drew (.cells #[.int .i32 0, .slice none 0 0, .slice none 0 0, .int .u32 0] 79) = W2 at *
      refine hK.out _ _ (⟨HMc.c0, HMc.c1, HMc.c2, HMc.c3⟩) (fun hHeld => ?_)
      clear hK K
      try simp only [List.set_cons_zero, List.set_cons_succ]
      refine wpAnyH_ready (rs := [9, 15]) (by kernel_rfl) (by simp) ?_
      refine AllReadyH.cons (o := _) rfl (fun K hK => ?_) ?_
      · skip
        refine step_val 19 rfl rfl (exec_make 76 (.tmp 18) (.tmp 18) rfl rfl rfl (mkP W2)) ?_
        have NP := Blk.new W2 80 CP
        have hzP := F2.size
        have F3 := Below.alloc F2 F2.size (.cells CP 80)
        replace HMc := Tx4.alloc HMc (.cells CP 80)
        replace HGc := Blk.alloc HGc (.cells CP 80)
        replace NT := Blk.alloc NT (.cells CP 80)
        generalize W2.heap.size = P at *
        generalize World.alloc W2 (.cells CP 80) = W3 at *
        refine hK.out _ _ (⟨HMc.c0, HMc.c1, HMc.c2, HMc.c3⟩) (fun hHeld => ?_)
        clear hK K
        try simp only [List.set_cons_zero, List.set_cons_succ]
        refine wpAnyH_ready (rs := [15]) (by kernel_rfl) (by simp) ?_
        refine AllReadyH.cons (o := _) rfl (fun K hK => ?_) ?_
        · skip
          refine step_val 25 rfl rfl (exec_make 77 (.tmp 24) (.tmp 24) rfl rfl rfl (mkQ W3)) ?_
          have NQ := Blk.new W3 88 CQ
          have hzQ := F3.size
          have F4 := Below.alloc F3 F3.size (.cells CQ 88)
          replace HMc := Tx4.alloc HMc (.cells CQ 88)
          replace HGc := Blk.alloc HGc (.cells CQ 88)
          replace NT := Blk.alloc NT (.cells CQ 88)
          replace NP := Blk.alloc NP (.cells CQ 88)
          generalize W3.heap.size = Q at *
          generalize World.alloc W3 (.cells CQ 88) = W4 at *
          refine hK.out _ _ (⟨HMc.c0, HMc.c1, HMc.c2, HMc.c3⟩) (fun hHeld => ?_)
          clear hK K
          try simp only [List.set_cons_zero, List.set_cons_succ]
          refine held_take 20 30 (.agg #[.int .i32 t.ver, .slice (some ⟨P, 0, none⟩) ni ni, .slice (some ⟨Q, 0, none⟩) no no, .int .u32 t.lock]) rfl rfl (by kernel_rfl) (by kernel_rfl) (by kernel_rfl) (fun _ _ _ h => nomatch h.1) (Or.inl ⟨wanted_plain rfl _, fun w hSw => exec_build 79 _ rfl rfl (by kernel_rfl)⟩) (by assumption) ?_
          simp only [List.set_cons_zero, List.set_cons_succ]
          refine wpAnyH_ready (rs := [22]) (by kernel_rfl) (by simp) ?_
          refine AllReadyH.cons (o := _) rfl (fun K hK => ?_) ?_
          · skip
            have hst := storeAt_row (P := Tryz.prog) W4 T 79 79 _ #[.int .i32 t.ver, .slice (some ⟨P, 0, none⟩) ni ni, .slice (some ⟨Q, 0, none⟩) no no, .int .u32 t.lock] NT info_mtx rfl (by kernel_rfl)
            refine step_skip' rfl rfl (exec_store 79 (.tmp 3) (.tmp 30) rfl rfl rfl hst) ?_
            have hfm : Fm (M1 T) W4 (World.setRow W4 T #[.int .i32 t.ver, .slice (some ⟨P, 0, none⟩) ni ni, .slice (some ⟨Q, 0, none⟩) no no, .int .u32 t.lock]) := cFm_setRow (Fm.refl _ _) _
            have NTs := Blk.setRow NT #[.int .i32 t.ver, .slice (some ⟨P, 0, none⟩) ni ni, .slice (some ⟨Q, 0, none⟩) no no, .int .u32 t.lock]
            have NPs := Blk.fm NP hfm (show ¬ M1 T P from Blk.ne_ NP NT (by decide))
            have NQs := Blk.fm NQ hfm (show ¬ M1 T Q from Blk.ne_ NQ NT (by decide))
            have HGs := Blk.fm HGc hfm (show ¬ M1 T g from Nat.ne_of_lt hgT)
            have HMs := Tx4.far HMc hfm (show ¬ M1 T m by show ¬ m = T; have := hmT; omega)
            have Fs := Below.fm F4 hfm F4.size (fun j hj (hm : j = T) => by omega)
            refine hK.out _ _ (⟨HMs.c0, HMs.c1, HMs.c2, HMs.c3⟩) (fun hHeld => ?_)
            clear hK K
            try simp only [List.set_cons_zero, List.set_cons_succ]
            refine wpAnyH_done (by kernel_rfl) ?_ _
            exact ⟨rfl, T, P, Q, ⟨_, _, _, _, _, _, _, _, _, _, _, _, _, _, _, _, _, _, _, _, _, rfl⟩, HGs, NTs, ⟨_, NPs, hCP⟩, ⟨_, NQs, hCQ⟩, Fs, hgT, hgw, hzP, hzQ⟩
          exact AllReadyH.nil
        exact AllReadyH.nil
      refine AllReadyH.cons (o := _) rfl (fun K hK => ?_) ?_
      · skip
        refine step_val 25 rfl rfl (exec_make 77 (.tmp 24) (.tmp 24) rfl rfl rfl (mkQ W2)) ?_
        have NQ := Blk.new W2 88 CQ
        have hzQ := F2.size
        have F3 := Below.alloc F2 F2.size (.cells CQ 88)
        replace HMc := Tx4.alloc HMc (.cells CQ 88)
        replace HGc := Blk.alloc HGc (.cells CQ 88)
        replace NT := Blk.alloc NT (.cells CQ 88)
        generalize W2.heap.size = Q at *
        generalize World.alloc W2 (.cells CQ 88) = W3 at *
        refine hK.out _ _ (⟨HMc.c0, HMc.c1, HMc.c2, HMc.c3⟩) (fun hHeld => ?_)
        clear hK K
        try simp only [List.set_cons_zero, List.set_cons_succ]
        refine wpAnyH_ready (rs := [9]) (by kernel_rfl) (by simp) ?_
        refine AllReadyH.cons (o := _) rfl (fun K hK => ?_) ?_
        · skip
          refine step_val 19 rfl rfl (exec_make 76 (.tmp 18) (.tmp 18) rfl rfl rfl (mkP W3)) ?_
          have NP := Blk.new W3 80 CP
          have hzP := F3.size
          have F4 := Below.alloc F3 F3.size (.cells CP 80)
          replace HMc := Tx4.alloc HMc (.cells CP 80)
          replace HGc := Blk.alloc HGc (.cells CP 80)
          replace NT := Blk.alloc NT (.cells CP 80)
          replace NQ := Blk.alloc NQ (.cells CP 80)
          generalize W3.heap.size = P at *
          generalize World.alloc W3 (.cells CP 80) = W4 at *
          refine hK.out _ _ (⟨HMc.c0, HMc.c1, HMc.c2, HMc.c3⟩) (fun hHeld => ?_)
          clear hK K
          try simp only [List.set_cons_zero, List.set_cons_succ]
          refine held_take 20 30 (.agg #[.int .i32 t.ver, .slice (some ⟨P, 0, none⟩) ni ni, .slice (some ⟨Q, 0, none⟩) no no, .int .u32 t.lock]) rfl rfl (by kernel_rfl) (by kernel_rfl) (by kernel_rfl) (fun _ _ _ h => nomatch h.1) (Or.inl ⟨wanted_plain rfl _, fun w hSw => exec_build 79 _ rfl rfl (by kernel_rfl)⟩) (by assumption) ?_
          simp only [List.set_cons_zero, List.set_cons_succ]
          refine wpAnyH_ready (rs := [22]) (by kernel_rfl) (by simp) ?_
          refine AllReadyH.cons (o := _) rfl (fun K hK => ?_) ?_
          · skip
            have hst := storeAt_row (P := Tryz.prog) W4 T 79 79 _ #[.int .i32 t.ver, .slice (some ⟨P, 0, none⟩) ni ni, .slice (some ⟨Q, 0, none⟩) no no, .int .u32 t.lock] NT info_mtx rfl (by kernel_rfl)
            refine step_skip' rfl rfl (exec_store 79 (.tmp 3) (.tmp 30) rfl rfl rfl hst) ?_
            have hfm : Fm (M1 T) W4 (World.setRow W4 T #[.int .i32 t.ver, .slice (some ⟨P, 0, none⟩) ni ni, .slice (some ⟨Q, 0, none⟩) no no, .int .u32 t.lock]) := cFm_setRow (Fm.refl _ _) _
            have NTs := Blk.setRow NT #[.int .i32 t.ver, .slice (some ⟨P, 0, none⟩) ni ni, .slice (some ⟨Q, 0, none⟩) no no, .int .u32 t.lock]
            have NPs := Blk.fm NP hfm (show ¬ M1 T P from Blk.ne_ NP NT (by decide))
            have NQs := Blk.fm NQ hfm (show ¬ M1 T Q from Blk.ne_ NQ NT (by decide))
            have HGs := Blk.fm HGc hfm (show ¬ M1 T g from Nat.ne_of_lt hgT)
            have HMs := Tx4.far HMc hfm (show ¬ M1 T m by show ¬ m = T; have := hmT; omega)
            have Fs := Below.fm F4 hfm F4.size (fun j hj (hm : j = T) => by omega)
            refine hK.out _ _ (⟨HMs.c0, HMs.c1, HMs.c2, HMs.c3⟩) (fun hHeld => ?_)
            clear hK K
            try simp only [List.set_cons_zero, List.set_cons_succ]
            refine wpAnyH_done (by kernel_rfl) ?_ _
            exact ⟨rfl, T, P, Q, ⟨_, _, _, _, _, _, _, _, _, _, _, _, _, _, _, _, _, _, _, _, _, rfl⟩, HGs, NTs, ⟨_, NPs, hCP⟩, ⟨_, NQs, hCQ⟩, Fs, hgT, hgw, hzP, hzQ⟩
          exact AllReadyH.nil
        exact AllReadyH.nil
      exact AllReadyH.nil
    exact AllReadyH.nil
  rintro e a' w2 ⟨rfl, T, P, Q, ⟨x10, x11, x12, x13, x14, x15, x16, x17, x18, x19, x20, x21, x22, x23, x24, x25, x26, x27, x28, x29, x30, rfl⟩, hsh⟩

  obtain ⟨hg2, hT2, ⟨CP2, hP2, hCP2⟩, ⟨CQ2, hQ2, hCQ2⟩, hb2, hgT, hgw2, hPw, hQw⟩ := hsh
  obtain ⟨CR, hCR, mkR⟩ := make_any 160 87 36 Tryz.underlying160 (by kernel_rfl) ni hi
  obtain ⟨CS, hCS, mkS⟩ := make_any 161 90 2 Tryz.underlying161 (by kernel_rfl) no ho
  have m2 := H1.out.below hb2 hmT
  have y1 := m2.c1
  have hR3 := Blk.new w2 87 CR
  have hg3 := hg2.alloc (.cells CR 87)
  have hT3 := hT2.alloc (.cells CR 87)
  have hP3 := hP2.alloc (.cells CR 87)
  have hQ3 := hQ2.alloc (.cells CR 87)
  have hb3 := hb2.alloc hb2.size (.cells CR 87)
  have hRw := hb2.size
  have m3 := (H1.out.below hb3 hmT).c1
  have HG2 := Lib.hid hg3
  have HT2 := Lib.hid hT3
  have HP2 := Lib.hid hP3
  have HQ2 := Lib.hid hQ3
  have HR2 := Lib.hid hR3
  have HB2 := Lib.hid hb3
  have HmkR := mkR w2
  have HmkS := Lib.hid mkS
  clear hg2 hT2 hP2 hQ2 hb2 hg3 hT3 hP3 hQ3 hR3 hb3 m2 mkR mkS HmkP HmkQ HG HB HM
  go_wp2_with fail
  generalize hRR : w2.heap.size = R at *
  generalize w2.alloc (.cells CR 87) = w3 at *
  have hgP : g ≠ P := Blk.ne_ HG2.out HP2.out (by decide)
  have hTP : T ≠ P := Blk.ne_ HT2.out HP2.out (by decide)
  have hTR : T ≠ R := Blk.ne_ HT2.out HR2.out (by decide)
  have hPR : P ≠ R := Blk.ne_ HP2.out HR2.out (by decide)
  have hgR : g ≠ R := Blk.ne_ HG2.out HR2.out (by decide)
  have hQP : Q ≠ P := Blk.ne_ HQ2.out HP2.out (by decide)
  have hQR : Q ≠ R := Blk.ne_ HQ2.out HR2.out (by decide)
  clear m3 y1
  go_loopg [5, 6, 42] (ni + 1) (fun k s5 s6 s42 wx => ∃ i CPx CRx, k = ni - i + 1 ∧ i ≤ ni ∧ s42 = .int .i64 i ∧ Blk wx P 80 CPx ∧ CPx.size = ni ∧ (∀ j, j < i → CPx[j]? = some (.pointer (some ⟨R, j * 36, none⟩))) ∧
    Blk wx R 87 CRx ∧ CRx.size = ni * 36 ∧ RowsOf 36 CRx i (PIn B w t.ins) ∧ Fm (M2n P R) w3 wx)
  case atStart => exact ⟨0, CP2, CR, rfl, Nat.zero_le _, rfl, HP2.out, hCP2, fun j hj => absurd hj (Nat.not_lt_zero _), HR2.out, hCR, RowsOf.zero _ _ _, Fm.refl _ _⟩
  case round =>
    obtain ⟨i, CPx, CRx, hk, hin, rfl, hPx, hPs, hPp, hRx, hRs, hRr, hf⟩ := hrel
    have bx := Below.fm HB2.out hf HB2.out.size (fun j hj hm => by rcases hm with hm | hm <;> omega)
    have bB := bx.mono hB
    by_cases h0 : i = ni
    · subst h0
      have hd : decide ((i : Int) < i) = false := by simp
      have y2 := (H1.out.below bx hmT).c2
      have hS5 := Blk.new wr 90 CS
      have o5 : Blk (wr.alloc (.cells CS 90)) P _ CPx := hPx.alloc _
      have o6 : Blk (wr.alloc (.cells CS 90)) R _ CRx := hRx.alloc _
      have o7 : Blk (wr.alloc (.cells CS 90)) T _ _ := (HT2.out.fm hf (show ¬ M2n P R T from fun e => e.elim hTP hTR)).alloc _
      have o8 : Blk (wr.alloc (.cells CS 90)) g _ _ := (HG2.out.fm hf (show ¬ M2n P R g from fun e => e.elim hgP hgR)).alloc _
      have o9 : Blk (wr.alloc (.cells CS 90)) Q _ _ := (HQ2.out.fm hf (show ¬ M2n P R Q from fun e => e.elim hQP hQR)).alloc _
      have b5 := bx.alloc bx.size (.cells CS 90)
      have hSw := bx.size
      have y3 := (H1.out.below b5 hmT).c2
      have HS5 := Lib.hid hS5
      have HP5 := Lib.hid o5
      have HR5 := Lib.hid o6
      have HT5 := Lib.hid o7
      have HG5 := Lib.hid o8
      have HQ5 := Lib.hid o9
      have HB5 := Lib.hid b5
      have HPp := Lib.hid hPp
      have HRr := Lib.hid hRr
      have HK := Lib.hid hk
      have hmkS := HmkS.out wr
      clear hS5 o5 o6 o7 o8 o9 b5 bx bB hf hPx hRx hPp hRr hk HP2 HR2 HT2 HG2 HQ2 HB2 HmkS
      go_wp2_with fail
      generalize hSS : wr.heap.size = S at *
      generalize wr.alloc (.cells CS 90) = w5 at *
      have hTQ : T ≠ Q := Blk.ne_ HT5.out HQ5.out (by decide)
      have hTS : T ≠ S := Blk.ne_ HT5.out HS5.out (by decide)
      have hQS : Q ≠ S := Blk.ne_ HQ5.out HS5.out (by decide)
      have hPS : P ≠ S := Blk.ne_ HP5.out HS5.out (by decide)
      have hRS : R ≠ S := Blk.ne_ HR5.out HS5.out (by decide)
      have hgQ : g ≠ Q := Blk.ne_ HG5.out HQ5.out (by decide)
      have hgS : g ≠ S := Blk.ne_ HG5.out HS5.out (by decide)
      clear y2 y3 hmkS
      go_loopg [8, 9, 72] (no + 1) (fun k s5 s6 s42 wx => ∃ i CPx CRx, k = no - i + 1 ∧ i ≤ no ∧ s42 = .int .i64 i ∧ Blk wx Q 88 CPx ∧ CPx.size = no ∧ (∀ j, j < i → CPx[j]? = some (.pointer (some ⟨S, j * 2, none⟩))) ∧
        Blk wx S 90 CRx ∧ CRx.size = no * 2 ∧ RowsOf 2 CRx i (POut B w t.outs) ∧ Fm (M2n Q S) w5 wx)
      case atStart => exact ⟨0, CQ2, CS, rfl, Nat.zero_le _, rfl, HQ5.out, hCQ2, fun j hj => absurd hj (Nat.not_lt_zero _), HS5.out, hCS, RowsOf.zero _ _ _, Fm.refl _ _⟩
      case round =>
        obtain ⟨i, CPx, CRx, hk, hin, rfl, hPx, hPs, hPp, hRx, hRs, hRr, hf⟩ := hrel
        have bx := Below.fm HB5.out hf HB5.out.size (fun j hj hm => by rcases hm with hm | hm <;> omega)
        have bB := bx.mono hB
        by_cases h0 : i = no
        · subst h0
          have hd : decide ((i : Int) < i) = false := by simp
          have eT := HT5.out.fm hf (show ¬ M2n Q S T from fun e => e.elim hTQ hTS)
          have eG := HG5.out.fm hf (show ¬ M2n Q S g from fun e => e.elim hgQ hgS)
          have eP := HP5.out.fm hf (show ¬ M2n Q S P from fun e => e.elim (Blk.ne_ HP5.out HQ5.out (by decide)) hPS)
          have eR := HR5.out.fm hf (show ¬ M2n Q S R from fun e => e.elim (Blk.ne_ HR5.out HQ5.out (by decide)) hRS)
          obtain ⟨CT, hCT⟩ : ∃ CT : Array Value, CT = #[.int .i32 t.ver, .slice (some ⟨P, 0, none⟩) t.ins.length t.ins.length, .slice (some ⟨Q, 0, none⟩) t.outs.length t.outs.length, .int .u32 t.lock] := ⟨_, rfl⟩
          have hCT' := hCT
          rw [hNI, hNO] at hCT'
          rw [← hCT'] at eT
          have hCs : CT.size = 4 := by rw [hCT]; rfl
          have hone : CT.all (·.oneCell') = true := by rw [hCT]; kernel_rfl
          have hld := loadAt_row (P := Tryz.prog) wr T 79 79 CT eT Tryz.underlying79 rfl (by rw [hCs]; exact info_mtx)
          have hst := storeAt_row (P := Tryz.prog) wr g 79 79 _ CT eG (by rw [hCs]; exact info_mtx) (by rw [hCs]; rfl) hone
          have eG2 := Blk.setRow eG CT
          have hlv := run_loadVar_row (P := Tryz.prog) (wr.setRow g CT) g 79 79 CT (0, 0) _ eG2 Tryz.underlying79 rfl (by rw [hCs]; exact info_mtx)
          have hfg : Fm (M1 g) wr (wr.setRow g CT) := cFm_setRow (Fm.refl _ _) _
          have zP := eP.fm hfg (show ¬ P = g from Ne.symm hgP)
          have zR := eR.fm hfg (show ¬ R = g from Ne.symm hgR)
          have zQ := hPx.fm hfg (show ¬ Q = g from Ne.symm hgQ)
          have zS := hRx.fm hfg (show ¬ S = g from Ne.symm hgS)
          have zb := Below.fm bx hfg bx.size (fun j hj (hm : j = g) => by omega)
          have ZZ : Hid (ShDone B w t (.returned (.agg CT)) (wr.setRow g CT)) := ⟨P, Q, R, S, _, _, _, _, by rw [hCT], hPw, hQw, hRw, by omega, zP, by rw [hNI]; assumption, by rw [hNI]; exact HPp.out, zR, by rw [hNI]; assumption, by rw [hNI]; exact HRr.out, zQ, by rw [hNO]; assumption, by rw [hNO]; exact hPp, zS, by rw [hNO]; assumption, by rw [hNO]; exact hRr, zb⟩
          clear hCT hCT' eT eG eP eR eG2 hfg zP zR zQ zS zb bx bB hf hPx hRx hPp hRr
          go_wp2_with (refine wpList_load 79 (.tmp 3) rfl rfl (.agg CT) (exec_load 79 (.tmp 3) rfl rfl hld) ?_; refine Stop.mk ?_)
          refine Stop.go ?_
          refine wpList_skip rfl rfl (exec_store 79 (.tmp 2) (.tmp 91) rfl rfl rfl hst) ?_
          go_wp2
          refine bodyPost_ret (v := .agg CT) ?_ rfl ?_
          · exact results_cell rfl _ _ _ g _ rfl hlv
          · exact ZZ.out
        · have h1 : (i : Int) < (no : Int) := by omega
          have h2 : (0 : Int) ≤ (i : Int) := by omega
          obtain ⟨x, o, rfl, hcells⟩ := H5.out.2 (by omega)
          obtain ⟨v, hv⟩ : ∃ v, vo[i]? = some v := ⟨vo[i]'(by rw [H5.out.1]; omega), List.getElem?_eq_getElem _⟩
          obtain ⟨ti, hti⟩ : ∃ v, t.outs[i]? = some v := ⟨t.outs[i]'(by omega), List.getElem?_eq_getElem _⟩
          obtain ⟨p, po, cx, rfl, hp, hr, hci⟩ := (H7.out.2 i v ti hv hti).co
          have hcl := at_below bB (hcells i _ hv) (H6.out x o rfl)
          have hrx := range_below bB hr hp
          have hthere : wr.there S (i * 2) cx.cells.toArray.size := fun j hj => by
            rw [List.size_toArray, cx.len] at hj
            refine ⟨?_, hRx.frozen _⟩
            rw [hRx.cell, Array.getElem?_eq_getElem (by omega)]
            rfl
          have yT := (HT5.out.fm hf (show ¬ M2n Q S T from fun e => e.elim hTQ hTS)).cell 2
          change _ = some (Value.slice (some ⟨Q, 0, none⟩) no no) at yT
          have HRx := Lib.hid hRx
          have HPx := Lib.hid hPx
          have HPp := Lib.hid hPp
          have HRr := Lib.hid hRr
          have HF := Lib.hid hf
          have HTI := Lib.hid hti
          have HCI := Lib.hid hci
          have HK := Lib.hid hk
          have HTH := Lib.hid hthere
          have HRX := Lib.hid hrx
          clear hRx hPx hPp hRr hf hti hci hk hcells hv hr bx bB hrx hthere
          go_wp2_with (refine wpList_load_mid rfl 90 (.tmp 80) rfl p po rfl cx.cells _ HRX.out Tryz.underlying90 rfl (by rw [cx.len]; exact info_tout) ?_; refine Stop.mk ?_)
          refine Stop.go ?_
          go_wp2_with (refine wpList_store_mid rfl 90 (.tmp 82) (.tmp 81) rfl S (i * 2) cx.cells.toArray rfl rfl HTH.out ?_ ?_ ?_)
          · rw [List.size_toArray, cx.len]; exact info_tout
          · exact all_oneCell_toArray (co_one cx HCI.out)
          obtain ⟨C2, hR4, hC2s, hC2a, hC2b⟩ := setCells_blk cx.cells (i * 2) wr CRx HRx.out (by rw [cx.len]; omega)
          have hf4 : Fm (M2n Q S) wr (wr.setCells S (i * 2) cx.cells) := setCells_fm (Or.inr rfl) _ _ _ (Fm.refl _ _)
          have hfR : Fm (M1 S) wr (wr.setCells S (i * 2) cx.cells) := setCells_fm (M := M1 S) rfl _ _ _ (Fm.refl _ _)
          have hr4 := HRr.out.succ (C' := C2) cx.cells cx.len ⟨ti, cx, HTI.out, rfl, HCI.out⟩ hC2a hC2b
          have hP4 := HPx.out.fm hfR (show ¬ M1 S Q from hQS)
          have hF4 := HF.out.trans hf4
          have yT4 := (HT5.out.fm hF4 (show ¬ M2n Q S T from fun e => e.elim hTQ hTS)).cell 2
          change _ = some (Value.slice (some ⟨Q, 0, none⟩) no no) at yT4
          change (Code.region 14 _ _).wp _ _ _ (wr.setCells S (i * 2) cx.cells)
          generalize wr.setCells S (i * 2) cx.cells = w4 at *
          clear hf4 hfR yT hcl hC2a hC2b HRr HRx HPx HF
          have HP4 := Lib.hid hP4
          have HR4 := Lib.hid hR4
          have Hr4 := Lib.hid hr4
          have HF4 := Lib.hid hF4
          have fz := hP4.frozen i
          obtain ⟨u, hu⟩ : ∃ u, w4.cell? ⟨Q, i, none⟩ = some u := ⟨CPx[i]'(by omega), (hP4.cell i).trans (Array.getElem?_eq_getElem _)⟩
          clear hP4 hR4 hr4 hF4
          go_upto_region 14 with fail
          go_still_tail 7, (by kernel_rfl)
          change wpList _ _ _ _ _ w4.drew
          go_wp2_with fail
          have hw1 : (i : Int) + 1 = ((i + 1 : Nat) : Int) := by omega
          go_roundg (no - (i + 1) + 1)
          case measure => have := HK.out; omega
          case rel =>
            refine ⟨i + 1, _, C2, rfl, by omega, ?_, HP4.out.set_ i _, by simpa using hPs, ?_, HR4.out.far (p := ⟨Q, i, none⟩) (Ne.symm hQS) _, by rw [hC2s]; exact hRs, Hr4.out, (HF4.out.setCell (p := ⟨Q, i, none⟩) (fun _ => Or.inl rfl) _).drew⟩
            · rw [← hw1]
            · intro j hj
              rw [Array.getElem?_setIfInBounds]
              by_cases hji : i = j
              · subst hji
                rw [if_pos rfl, if_pos (by omega)]
              · rw [if_neg hji]
                exact HPp.out j (by omega)
    · have h1 : (i : Int) < (ni : Int) := by omega
      have h2 : (0 : Int) ≤ (i : Int) := by omega
      obtain ⟨x, o, rfl, hcells⟩ := H2.out.2 (by omega)
      obtain ⟨v, hv⟩ : ∃ v, vi[i]? = some v := ⟨vi[i]'(by rw [H2.out.1]; omega), List.getElem?_eq_getElem _⟩
      obtain ⟨ti, hti⟩ : ∃ v, t.ins[i]? = some v := ⟨t.ins[i]'(by omega), List.getElem?_eq_getElem _⟩
      obtain ⟨p, po, cx, rfl, hp, hr, hci⟩ := (H4.out.2 i v ti hv hti).ci
      have hcl := at_below bB (hcells i _ hv) (H3.out x o rfl)
      have hrx := range_below bB hr hp
      have hthere : wr.there R (i * 36) cx.cells.toArray.size := fun j hj => by
        rw [List.size_toArray, cx.len] at hj
        refine ⟨?_, hRx.frozen _⟩
        rw [hRx.cell, Array.getElem?_eq_getElem (by omega)]
        rfl
      have yT := (HT2.out.fm hf (show ¬ M2n P R T from fun e => e.elim hTP hTR)).cell 1
      change _ = some (Value.slice (some ⟨P, 0, none⟩) ni ni) at yT
      have HRx := Lib.hid hRx
      have HPx := Lib.hid hPx
      have HPp := Lib.hid hPp
      have HRr := Lib.hid hRr
      have HF := Lib.hid hf
      have HTI := Lib.hid hti
      have HCI := Lib.hid hci
      have HK := Lib.hid hk
      have HTH := Lib.hid hthere
      have HRX := Lib.hid hrx
      clear hRx hPx hPp hRr hf hti hci hk hcells hv hr bx bB hrx hthere
      go_wp2_with (refine wpList_load_mid rfl 87 (.tmp 50) rfl p po rfl cx.cells _ HRX.out Tryz.underlying87 rfl (by rw [cx.len]; exact info_tin) ?_; refine Stop.mk ?_)
      refine Stop.go ?_
      go_wp2_with (refine wpList_store_mid rfl 87 (.tmp 52) (.tmp 51) rfl R (i * 36) cx.cells.toArray rfl rfl HTH.out ?_ ?_ ?_)
      · rw [List.size_toArray, cx.len]; exact info_tin
      · exact all_oneCell_toArray (ci_one cx HCI.out)
      obtain ⟨C2, hR4, hC2s, hC2a, hC2b⟩ := setCells_blk cx.cells (i * 36) wr CRx HRx.out (by rw [cx.len]; omega)
      have hf4 : Fm (M2n P R) wr (wr.setCells R (i * 36) cx.cells) := setCells_fm (Or.inr rfl) _ _ _ (Fm.refl _ _)
      have hfR : Fm (M1 R) wr (wr.setCells R (i * 36) cx.cells) := setCells_fm (M := M1 R) rfl _ _ _ (Fm.refl _ _)
      have hr4 := HRr.out.succ (C' := C2) cx.cells cx.len ⟨ti, cx, HTI.out, rfl, HCI.out⟩ hC2a hC2b
      have hP4 := HPx.out.fm hfR (show ¬ M1 R P from hPR)
      have hF4 := HF.out.trans hf4
      have yT4 := (HT2.out.fm hF4 (show ¬ M2n P R T from fun e => e.elim hTP hTR)).cell 1
      change _ = some (Value.slice (some ⟨P, 0, none⟩) ni ni) at yT4
      change (Code.region 7 _ _).wp _ _ _ (wr.setCells R (i * 36) cx.cells)
      generalize wr.setCells R (i * 36) cx.cells = w4 at *
      clear hf4 hfR yT hcl hC2a hC2b HRr HRx HPx HF
      have HP4 := Lib.hid hP4
      have HR4 := Lib.hid hR4
      have Hr4 := Lib.hid hr4
      have HF4 := Lib.hid hF4
      have fz := hP4.frozen i
      obtain ⟨u, hu⟩ : ∃ u, w4.cell? ⟨P, i, none⟩ = some u := ⟨CPx[i]'(by omega), (hP4.cell i).trans (Array.getElem?_eq_getElem _)⟩
      clear hP4 hR4 hr4 hF4
      go_upto_region 7 with fail
      go_still_tail 7, (by kernel_rfl)
      change wpList _ _ _ _ _ w4.drew
      go_wp2_with fail
      have hw1 : (i : Int) + 1 = ((i + 1 : Nat) : Int) := by omega
      go_roundg (ni - (i + 1) + 1)
      case measure => have := HK.out; omega
      case rel =>
        refine ⟨i + 1, _, C2, rfl, by omega, ?_, HP4.out.set_ i _, by simpa using hPs, ?_, HR4.out.far (p := ⟨P, i, none⟩) (Ne.symm hPR) _, by rw [hC2s]; exact hRs, Hr4.out, (HF4.out.setCell (p := ⟨P, i, none⟩) (fun _ => Or.inl rfl) _).drew⟩
        · rw [← hw1]
        · intro j hj
          rw [Array.getElem?_setIfInBounds]
          by_cases hji : i = j
          · subst hji
            rw [if_pos rfl, if_pos (by omega)]
          · rw [if_neg hji]
            exact HPp.out j (by omega)
end Go.Proofs.YtkgihpebghmnbaaGreatDoor
