/- The function that is told each step: it keeps the place and the top of the stack. -/
import Derived.Test.YtafpgikhcjildaaGreatDoorTold
import Derived.Test.YtafpgikhcjildaaGreatDoorLists
import Derived.Test.YtafpgikhcjildaaGreatDoorPost
namespace Go.Proofs.YtafpgikhcjildaaGreatDoor
open Go.RowKit Go.Proofs

set_option maxRecDepth 100000

section
variable {P : Program} {ops : Array Oper} {Q : Exit → Act → World → Prop} {w w' : World} {o : Oper} {l : List Value} {ds : List Deferred} {K : Act → World → Prop} {E : Prop}

theorem step_app_at (d : Nat) (hgd : o.guard = none) (hd : o.dst = some d) (s x : Operand) (t : TypeId)
    (ho : o.op = .call { callee := .builtin .append, args := #[s, x], argTypes := #[t, t] })
    (base : Nat) (e : TypeId) (i : TypeInfo) (z : Value) (size bytes : Nat) (ht : P.underlying t = some (.slice e)) (hi : P.info? e = some i) (hz : i.zero = some z)
    (hsize : i.size = size) (hby : i.bytes = bytes) (hzs : z.cells.size = size) (hsz : 0 < size)
    (v : Value) (n : Nat) (xs : List Value) (hs : Act.eval ⟨l.toArray, ds⟩ s = v) (hown : w.ownsRow base e size v n xs)
    (ad : Addr) (m c : Nat) (news : List Value) (hx : Act.eval ⟨l.toArray, ds⟩ x = .slice (some ad) m c) (hl : news.length = m * size) (hr : ∀ j u, news[j]? = some u → w.cell? (ad.add j) = some u) (h1 : ∀ u ∈ news, u.oneCell' = true)
    (hbytes : (n + m) * bytes ≤ 140737488355328) (hpos : n + m ≤ maxLen) (hbase : base ≤ w.heap.size)
    (h : ∀ v' w', w'.ownsRow base e size v' (n + m) (xs ++ news) → w.grownBy w' v.ownBlock → (v'.ownBlock = v.ownBlock ∨ v'.ownBlock = some w.heap.size) → K ⟨(l.set d v').toArray, ds⟩ w') :
    if Region.wanted o (yielded ops (Act.mk l.toArray ds).tmps) = true then Oper.wp P o ⟨l.toArray, ds⟩ w K Q else E := by
  obtain ⟨v', w', hrun, h2, h3, _, h4⟩ := run_append_own_at (P := P) w base t o.type e i z size bytes ht hi hz hsize hby hzs hsz v n xs hown ad m c news hl hr h1 hpos hbytes hbase
  rw [if_pos (wanted_plain hgd _)]
  unfold Oper.wp execOp
  simp only [ho, resolve, invoke, builtin, Sem.run_bind, Sem.run_pure, Result.andThen_ok, List.map_toArray, List.map_cons, List.map_nil, hs, hx, hrun]
  have h5 := h v' w' h2 h3 h4
  show K (Act.put _ o.dst v') w'
  rw [hd]
  simpa [Act.put] using h5
end

theorem info_int2 : (Tryz.prog.info? 46).map (fun i => (i.zero, i.size, i.bytes)) = some (some (.agg #[.int .i64 0, .int .i64 0]), 2, 16) := by kernel_rfl

theorem grown_cell {w w' : World} {row : Option Nat} {a : Addr} {u : Value} (h : w.grownBy w' row) (hc : w.cell? a = some u) (hne : row ≠ some a.block) : w'.cell? a = some u :=
  (World.cell?_of_block (w := w) (h.block a.block (World.block_lt_of_cell? w _ hc) (fun e => hne e.symm))).trans hc

/-- The blocks that the telling turns. -/
def Mt (bp bt : Nat) (vp vt : Value) (k : Nat) : Prop := k = bp ∨ k = bt ∨ vp.ownBlock = some k ∨ vt.ownBlock = some k

theorem own_lt {w : World} {base e size n : Nat} {v : Value} {xs : List Value} (h : w.ownsRow base e size v n xs) {k : Nat} (hk : v.ownBlock = some k) : ∃ cur, w.heap[k]? = some (.cells cur e (0, 0)) ∧ base ≤ k := by
  rcases h.2 with ⟨rfl, _⟩ | ⟨g', cap, cur, rfl, hbg, hgg, _⟩
  · simp [Value.ownBlock] at hk
  · have : g' = k := by simpa [Value.ownBlock] using hk
    subst this
    exact ⟨cur, hgg, hbg⟩

theorem own_apart {w : World} {base e size n base2 e2 size2 n2 : Nat} {v v2 : Value} {xs xs2 : List Value} (h : w.ownsRow base e size v n xs) (h2 : w.ownsRow base2 e2 size2 v2 n2 xs2) (hne : e ≠ e2) {j : Nat} (hj : v.ownBlock = some j) (hj2 : v2.ownBlock = some j) : False := by
  obtain ⟨cur, h1, -⟩ := own_lt h hj
  obtain ⟨cur2, h3, -⟩ := own_lt h2 hj2
  rw [h1] at h3
  injection h3 with h3
  injection h3 with _ h3
  exact hne h3

theorem mt_its {w : World} {b0 bp bt k k2 : Nat} {vp vt : Value} {its vts : List Value} {cp ct : Array Value} (hbp : Blk w bp 27 cp) (hop : w.ownsRow b0 46 2 vp k its) (hbt : Blk w bt 22 ct) (hot : w.ownsRow b0 24 1 vt k2 vts) :
    Its 0 w (Mt bp bt vp vt) := by
  rintro j _ (rfl | rfl | h | h)
  · exact ⟨Nat.zero_le _, _, _, _, hbp, by decide⟩
  · exact ⟨Nat.zero_le _, _, _, _, hbt, by decide⟩
  · obtain ⟨cur, hh, -⟩ := own_lt hop h
    exact ⟨Nat.zero_le _, _, _, _, hh, by decide⟩
  · obtain ⟨cur, hh, -⟩ := own_lt hot h
    exact ⟨Nat.zero_le _, _, _, _, hh, by decide⟩

theorem mt_ne {w : World} {b0 bp bt k k2 b : Nat} {t : TypeId} {cs : Array Value} {vp vt : Value} {its vts : List Value} {cp ct : Array Value} (hbp : Blk w bp 27 cp) (hop : w.ownsRow b0 46 2 vp k its) (hbt : Blk w bt 22 ct) (hot : w.ownsRow b0 24 1 vt k2 vts)
    (h : Blk w b t cs) (h1 : t ≠ 27) (h2 : t ≠ 22) (h3 : t ≠ 46) (h4 : t ≠ 24) : ¬ Mt bp bt vp vt b := by
  rintro (e | e | e | e)
  · exact h.ne_ hbp h1 e
  · exact h.ne_ hbt h2 e
  · exact own_blk_ne hop h h3.symm e
  · exact own_blk_ne hot h h4.symm e

/-- What the telling leaves. -/
def ToldPost (w : World) (b0 bp bt k : Nat) (vp vt : Value) (vts : List Value) (top : List UInt8) (e : Ending) (w' : World) : Prop :=
  e = .returned .nilIface ∧ ∃ (vp' vt' : Value) (its' : List Value) (v : Value), Blk w' bp 27 #[vp'] ∧ w'.ownsRow b0 46 2 vp' (k + 1) its' ∧
    Blk w' bt 22 #[vt'] ∧ w'.ownsRow b0 24 1 vt' (k + 1) (vts ++ [v]) ∧ Rd 0 w' v top ∧ (vt'.ownBlock = vt.ownBlock ∨ ∃ j, vt'.ownBlock = some j ∧ w.heap.size ≤ j) ∧ Fm (Mt bp bt vp vt) w w'

set_option maxHeartbeats 2000000 in
theorem told_fn (w : World) (b0 si bp bt x y T n c k cp ct : Nat) (Ap At : Option Addr) (u : Value) (its vts vs : List Value) (xss : List (List UInt8))
    (hsi : Blk w si 45 #[.int .i64 x, .int .i64 y, .slice (some ⟨T, 0, none⟩) n c, u]) (hbp : Blk w bp 27 #[.slice Ap k cp]) (hop : w.ownsRow b0 46 2 (.slice Ap k cp) k its)
    (hbt : Blk w bt 22 #[.slice At k ct]) (hot : w.ownsRow b0 24 1 (.slice At k ct) k vts)
    (hc : Cells w (some ⟨T, 0, none⟩) n vs) (hr : RdL 0 w vs xss) (hn : n ≤ 1000) (hk : k ≤ 10000) (hb0 : b0 ≤ w.heap.size) (hx : ∀ xs ∈ xss, xs.length ≤ 1000000) (hT : ¬ Mt bp bt (.slice Ap k cp) (.slice At k ct) T) :
    Calls Tryz.prog 11 #[.pointer (some ⟨si, 0, none⟩), .pointer (some ⟨bp, 0, none⟩), .pointer (some ⟨bt, 0, none⟩)] w (ToldPost w b0 bp bt k (.slice Ap k cp) (.slice At k ct) vts (xss.getLastD [])) := by
  have hlen : xss.length = n := by rw [← hr.1, hc.1]
  obtain ⟨i0, hi0, hi1, hi2, hi3⟩ := info_parts info_int2
  obtain ⟨j0, hj, hy0, hy1, hy2⟩ := info_parts info_rows
  have c0 := hsi.cell 0
  change _ = some (Value.int .i64 x) at c0
  have c1 := hsi.cell 1
  change _ = some (Value.int .i64 y) at c1
  have p0 := hbp.cell 0
  change _ = some (Value.slice Ap k cp) at p0
  have pf := hbp.frozen
  have HSI := Lib.hid hsi
  have HBP := Lib.hid hbp
  have HOP := Lib.hid hop
  have HBT := Lib.hid hbt
  have HOT := Lib.hid hot
  have HC := Lib.hid hc
  have HR := Lib.hid hr
  have HX := Lib.hid hx
  clear hsi hbp hop hbt hot hc hr hx
  go_enter Tryz.func11, Tryz.ntmps11
  go_wp2_with fail
  refine Code.wp_mono (Q := fun e a' w' => e = .normal ∧ ∃ (A9 : Option Addr) (c9 : Nat) (y17 : Value), a' = ⟨#[.pointer (some ⟨si, 0, none⟩), .pointer (some ⟨bp, 0, none⟩), .pointer (some ⟨bt, 0, none⟩), undef, .nilIface, undef, undef, .slice Ap k cp, .pointer (some ⟨si, 0, none⟩), .pointer (some ⟨si, 0, none⟩), .pointer (some ⟨si, 0, none⟩), .int .i64 x, .pointer (some ⟨si, 0, none⟩), .pointer (some ⟨si, 0, none⟩), .pointer (some ⟨si, 1, none⟩), .int .i64 y, .agg #[.int .i64 x, .int .i64 y], y17, .slice A9 (k + 1) c9, undef, undef, undef, undef, undef, undef, undef, undef, undef, undef, undef, undef, undef, undef, undef, undef, undef, undef, undef, undef], []⟩ ∧
    ∃ its' : List Value, Blk w' bp 27 #[.slice A9 (k + 1) c9] ∧ w'.ownsRow b0 46 2 (.slice A9 (k + 1) c9) (k + 1) its' ∧ Fm (M2 bp (.slice Ap k cp)) w w') ?_ ?_
  rotate_left
  refine wp_region_held_drew (S := fun w' => w'.cell? ⟨si, 0, none⟩ = some (.int .i64 x) ∧ w'.cell? ⟨si, 1, none⟩ = some (.int .i64 y)) (by kernel_rfl) ⟨c0, c1⟩ (fun hHeld => ?_)
  refine held_take 1 8 (.pointer (some ⟨si, 0, none⟩)) rfl rfl (by kernel_rfl) (by kernel_rfl) (by kernel_rfl) (fun _ _ _ h => nomatch h.1) (Or.inl ⟨wanted_plain rfl _, fun w hSw => by kernel_rfl⟩) (by assumption) ?_
  simp only [List.set_cons_zero, List.set_cons_succ]
  refine held_take 2 9 (.pointer (some ⟨si, 0, none⟩)) rfl rfl (by kernel_rfl) (by kernel_rfl) (by kernel_rfl) (fun _ _ _ h => nomatch h.1) (Or.inl ⟨wanted_plain rfl _, fun w hSw => by kernel_rfl⟩) (by assumption) ?_
  simp only [List.set_cons_zero, List.set_cons_succ]
  refine held_take 3 10 (.pointer (some ⟨si, 0, none⟩)) rfl rfl (by kernel_rfl) (by kernel_rfl) (by kernel_rfl) (fun _ _ _ h => nomatch h.1) (Or.inl ⟨wanted_plain rfl _, fun w hSw => by kernel_rfl⟩) (by assumption) ?_
  simp only [List.set_cons_zero, List.set_cons_succ]
  refine held_take 4 11 (.int .i64 x) rfl rfl (by kernel_rfl) (by kernel_rfl) (by kernel_rfl) (fun _ _ _ h => nomatch h.1) (Or.inl ⟨wanted_plain rfl _, fun w hSw => exec_load 3 (.tmp 10) rfl rfl (by (obtain ⟨g1, g2⟩ := hSw; go_simp))⟩) (by assumption) ?_
  simp only [List.set_cons_zero, List.set_cons_succ]
  refine held_take 5 12 (.pointer (some ⟨si, 0, none⟩)) rfl rfl (by kernel_rfl) (by kernel_rfl) (by kernel_rfl) (fun _ _ _ h => nomatch h.1) (Or.inl ⟨wanted_plain rfl _, fun w hSw => by kernel_rfl⟩) (by assumption) ?_
  simp only [List.set_cons_zero, List.set_cons_succ]
  refine held_take 6 13 (.pointer (some ⟨si, 0, none⟩)) rfl rfl (by kernel_rfl) (by kernel_rfl) (by kernel_rfl) (fun _ _ _ h => nomatch h.1) (Or.inl ⟨wanted_plain rfl _, fun w hSw => by kernel_rfl⟩) (by assumption) ?_
  simp only [List.set_cons_zero, List.set_cons_succ]
  refine held_take 7 14 (.pointer (some ⟨si, 1, none⟩)) rfl rfl (by kernel_rfl) (by kernel_rfl) (by kernel_rfl) (fun _ _ _ h => nomatch h.1) (Or.inl ⟨wanted_plain rfl _, fun w hSw => by kernel_rfl⟩) (by assumption) ?_
  simp only [List.set_cons_zero, List.set_cons_succ]
  refine held_take 8 15 (.int .i64 y) rfl rfl (by kernel_rfl) (by kernel_rfl) (by kernel_rfl) (fun _ _ _ h => nomatch h.1) (Or.inl ⟨wanted_plain rfl _, fun w hSw => exec_load 3 (.tmp 14) rfl rfl (by (obtain ⟨g1, g2⟩ := hSw; go_simp))⟩) (by assumption) ?_
  simp only [List.set_cons_zero, List.set_cons_succ]
  refine held_take 9 16 (.agg #[.int .i64 x, .int .i64 y]) rfl rfl (by kernel_rfl) (by kernel_rfl) (by kernel_rfl) (fun _ _ _ h => nomatch h.1) (Or.inl ⟨wanted_plain rfl _, fun w hSw => by kernel_rfl⟩) (by assumption) ?_
  simp only [List.set_cons_zero, List.set_cons_succ]
  have hfd : Below w.heap.size w w.drew := ⟨rfl, rfl, rfl, Nat.le_refl _, fun _ _ => rfl⟩
  have hfa : Below w.heap.size w (w.drew.alloc (.cells #[.int .i64 x, .int .i64 y] 46)) := hfd.alloc (Nat.le_refl _) _
  have hS2 : (w.drew.alloc (.cells #[.int .i64 x, .int .i64 y] 46)).cell? ⟨si, 0, none⟩ = some (.int .i64 x) ∧ (w.drew.alloc (.cells #[.int .i64 x, .int .i64 y] 46)).cell? ⟨si, 1, none⟩ = some (.int .i64 y) := ⟨cell_keep hfa c0, cell_keep hfa c1⟩
  have hp2 : (w.drew.alloc (.cells #[.int .i64 x, .int .i64 y] 46)).cell? ⟨bp, 0, none⟩ = some (.slice Ap k cp) := cell_keep hfa p0
  have hp3 : World.cell? (w.alloc (.cells #[.int .i64 x, .int .i64 y] 46)) ⟨bp, 0, none⟩ = some (.slice Ap k cp) := hp2
  refine wpAnyH_ready (rs := [0, 10]) (by kernel_rfl) (by simp) ?_
  refine AllReadyH.cons (o := _) rfl (fun K hK => ?_) (AllReadyH.cons (o := _) rfl (fun K hK => ?_) AllReadyH.nil)
  · skip
    refine step_val 7 (w' := w.drew) (v := .slice Ap k cp) rfl rfl (exec_load 27 (.tmp 1) rfl rfl (by (have hq := p0; go_simp))) ?_
    refine hK.out _ _ ⟨c0, c1⟩ (fun hHeld => ?_)
    clear hK K
    simp only [List.set_cons_zero, List.set_cons_succ]
    refine wpAnyH_ready (rs := [10]) (by kernel_rfl) (by simp) ?_
    refine AllReadyH.cons (o := _) rfl (fun K hK => ?_) AllReadyH.nil
    refine step_val 17 (w' := (w.drew.alloc (.cells #[.int .i64 x, .int .i64 y] 46))) (v := .slice (some ⟨w.heap.size, 0, none⟩) 1 1) rfl rfl (by kernel_rfl) ?_
    refine hK.out _ _ hS2 (fun hHeld => ?_)
    clear hK K
    simp only [List.set_cons_zero, List.set_cons_succ]
    refine wpAnyH_ready (rs := [11]) (by kernel_rfl) (by simp) ?_
    refine AllReadyH.cons (o := _) rfl (fun K hK => ?_) AllReadyH.nil
    refine step_app_at 18 rfl rfl (.tmp 7) (.tmp 17) 27 rfl b0 46 i0 _ 2 16 Tryz.underlying27 hi0 hi1 hi2 hi3 rfl (by omega) (.slice Ap k cp) k its rfl (own_below HOP.out hfa) ⟨w.heap.size, 0, none⟩ 1 1 [.int .i64 x, .int .i64 y] rfl rfl (by intro j u hu; rw [addr_add]; match j, hu with | 0, hu => (simp at hu; subst hu; exact (Blk.new w.drew 46 #[.int .i64 x, .int .i64 y]).cell 0) | 1, hu => (simp at hu; subst hu; exact (Blk.new w.drew 46 #[.int .i64 x, .int .i64 y]).cell 1)) (by intro u hu; simp at hu; rcases hu with rfl | rfl <;> rfl) (by omega) (by simp [maxLen]; omega) (Nat.le_trans hb0 hfa.size) ?_
    intro v9 W9 hown hgrow hat
    obtain ⟨A9, c9, rfl⟩ := own_form hown
    refine hK.out _ _ ⟨grown_cell hgrow hS2.1 (own_blk_ne HOP.out HSI.out (by decide)), grown_cell hgrow hS2.2 (own_blk_ne HOP.out HSI.out (by decide))⟩ (fun hHeld => ?_)
    clear hK K
    simp only [List.set_cons_zero, List.set_cons_succ]
    have b9 := (HBP.out.below hfa HBP.out.lt).grown hgrow (fun e => own_blk_ne HOP.out HBP.out (by decide) e.symm)
    have hp9 := b9.cell 0
    change _ = some (Value.slice Ap k cp) at hp9
    have hf9 := b9.frozen
    refine wpAnyH_ready (rs := [12]) (by kernel_rfl) (by simp) ?_
    refine AllReadyH.cons (o := _) rfl (fun K hK => ?_) AllReadyH.nil
    refine step_skip' (w' := W9.setCell ⟨bp, 0, none⟩ (.slice A9 (k + 1) c9)) rfl rfl (exec_store 27 (.tmp 1) (.tmp 18) rfl rfl rfl (by go_simp)) ?_
    have hne : bp ≠ si := HBP.out.ne_ HSI.out (by decide)
    have s9 := (HSI.out.below hfa HSI.out.lt).grown hgrow (fun e => own_blk_ne HOP.out HSI.out (by decide) e.symm)
    have s10 := s9.far (p := ⟨bp, 0, none⟩) (Ne.symm hne) (.slice A9 (k + 1) c9)
    refine hK.out _ _ ⟨s10.cell 0, s10.cell 1⟩ (fun hHeld => ?_)
    clear hK K
    refine wpAnyH_done (by kernel_rfl) ?_ _
    exact ⟨rfl, A9, c9, _, rfl, _, b9.set_ 0 _, own_set hown (p := ⟨bp, 0, none⟩) b9 (by decide) _, Fm.set2 (Fm.grown (Fm.of_below hfa) hgrow (fun k _ h => Or.inr h)) 0 _⟩
  · skip
    refine step_val 17 (w' := (w.drew.alloc (.cells #[.int .i64 x, .int .i64 y] 46))) (v := .slice (some ⟨w.heap.size, 0, none⟩) 1 1) rfl rfl (by kernel_rfl) ?_
    refine hK.out _ _ hS2 (fun hHeld => ?_)
    clear hK K
    simp only [List.set_cons_zero, List.set_cons_succ]
    refine wpAnyH_ready (rs := [0]) (by kernel_rfl) (by simp) ?_
    refine AllReadyH.cons (o := _) rfl (fun K hK => ?_) AllReadyH.nil
    refine step_val 7 (w' := (w.drew.alloc (.cells #[.int .i64 x, .int .i64 y] 46))) (v := .slice Ap k cp) rfl rfl (exec_load 27 (.tmp 1) rfl rfl (by (have hq := hp3; go_simp))) ?_
    refine hK.out _ _ hS2 (fun hHeld => ?_)
    clear hK K
    simp only [List.set_cons_zero, List.set_cons_succ]
    refine wpAnyH_ready (rs := [11]) (by kernel_rfl) (by simp) ?_
    refine AllReadyH.cons (o := _) rfl (fun K hK => ?_) AllReadyH.nil
    refine step_app_at 18 rfl rfl (.tmp 7) (.tmp 17) 27 rfl b0 46 i0 _ 2 16 Tryz.underlying27 hi0 hi1 hi2 hi3 rfl (by omega) (.slice Ap k cp) k its rfl (own_below HOP.out hfa) ⟨w.heap.size, 0, none⟩ 1 1 [.int .i64 x, .int .i64 y] rfl rfl (by intro j u hu; rw [addr_add]; match j, hu with | 0, hu => (simp at hu; subst hu; exact (Blk.new w.drew 46 #[.int .i64 x, .int .i64 y]).cell 0) | 1, hu => (simp at hu; subst hu; exact (Blk.new w.drew 46 #[.int .i64 x, .int .i64 y]).cell 1)) (by intro u hu; simp at hu; rcases hu with rfl | rfl <;> rfl) (by omega) (by simp [maxLen]; omega) (Nat.le_trans hb0 hfa.size) ?_
    intro v9 W9 hown hgrow hat
    obtain ⟨A9, c9, rfl⟩ := own_form hown
    refine hK.out _ _ ⟨grown_cell hgrow hS2.1 (own_blk_ne HOP.out HSI.out (by decide)), grown_cell hgrow hS2.2 (own_blk_ne HOP.out HSI.out (by decide))⟩ (fun hHeld => ?_)
    clear hK K
    simp only [List.set_cons_zero, List.set_cons_succ]
    have b9 := (HBP.out.below hfa HBP.out.lt).grown hgrow (fun e => own_blk_ne HOP.out HBP.out (by decide) e.symm)
    have hp9 := b9.cell 0
    change _ = some (Value.slice Ap k cp) at hp9
    have hf9 := b9.frozen
    refine wpAnyH_ready (rs := [12]) (by kernel_rfl) (by simp) ?_
    refine AllReadyH.cons (o := _) rfl (fun K hK => ?_) AllReadyH.nil
    refine step_skip' (w' := W9.setCell ⟨bp, 0, none⟩ (.slice A9 (k + 1) c9)) rfl rfl (exec_store 27 (.tmp 1) (.tmp 18) rfl rfl rfl (by go_simp)) ?_
    have hne : bp ≠ si := HBP.out.ne_ HSI.out (by decide)
    have s9 := (HSI.out.below hfa HSI.out.lt).grown hgrow (fun e => own_blk_ne HOP.out HSI.out (by decide) e.symm)
    have s10 := s9.far (p := ⟨bp, 0, none⟩) (Ne.symm hne) (.slice A9 (k + 1) c9)
    refine hK.out _ _ ⟨s10.cell 0, s10.cell 1⟩ (fun hHeld => ?_)
    clear hK K
    refine wpAnyH_done (by kernel_rfl) ?_ _
    exact ⟨rfl, A9, c9, _, rfl, _, b9.set_ 0 _, own_set hown (p := ⟨bp, 0, none⟩) b9 (by decide) _, Fm.set2 (Fm.grown (Fm.of_below hfa) hgrow (fun k _ h => Or.inr h)) 0 _⟩
  rintro e a' w1 ⟨rfl, A9, c9, y17, rfl, its', hb9, ho9, hF⟩
  have hI : Its 0 w (M2 bp (.slice Ap k cp)) := Its.m2 HBP.out (by decide) (Nat.zero_le _) HOP.out (by decide) (Nat.zero_le _)
  have s1 := HSI.out.fm hF (fun h => h.elim (HSI.out.ne_ HBP.out (by decide)) (fun e => own_blk_ne HOP.out HSI.out (by decide) e))
  have bt1 := HBT.out.fm hF (fun h => h.elim (HBT.out.ne_ HBP.out (by decide)) (fun e => own_blk_ne HOP.out HBT.out (by decide) e))
  have ot1 := own_fm HOT.out hF (fun j hj h => h.elim (fun e => own_blk_ne HOT.out HBP.out (by decide) (e ▸ hj)) (fun e => by
    exact own_apart HOT.out HOP.out (by decide) hj e))
  have hc1 : Cells w1 (some ⟨T, 0, none⟩) n vs := HC.out.fm hF (fun b o e h => by
    injection e with e
    injection e with e1 e2
    subst e1
    exact hT (h.elim Or.inl (fun h => Or.inr (Or.inr (Or.inl h)))))
  have hr1 : RdL 0 w1 vs xss := HR.out.fm hF hI
  have d2 := s1.cell 2
  change _ = some (Value.slice (some ⟨T, 0, none⟩) n c) at d2
  have t0 := bt1.cell 0
  change _ = some (Value.slice At k ct) at t0
  have hsz := hF.size
  have HB9 := Lib.hid hb9
  have HO9 := Lib.hid ho9
  have HF := Lib.hid hF
  have BT1 := Lib.hid bt1
  have OT1 := Lib.hid ot1
  have HC1 := Lib.hid hc1
  have HR1 := Lib.hid hr1
  clear hb9 ho9 hF s1 bt1 ot1 hc1 hr1 hI HSI HBP HC HR c0 c1 p0 pf hT
  by_cases hn0 : n = 0
  · subst hn0
    have hx0 : xss = [] := List.eq_nil_of_length_eq_zero hlen
    subst hx0
    have d2 : w1.cell? ⟨si, 2, none⟩ = some (.slice (some ⟨T, 0, none⟩) 0 c) := d2

    have hszW : b0 ≤ w1.heap.size := Nat.le_trans hb0 hsz
    have hszW0 : w.heap.size ≤ w1.heap.size := hsz
    have OTW := OT1
    have BTW := BT1
    have BPW := HB9
    have O9W := HO9
    have RDT : Hid (Rd 0 w1 (.slice none 0 0) ([] : List UInt8)) := Rd.nil _ _ _ _
    have FW : Hid (Fm (Mt bp bt (.slice Ap k cp) (.slice At k ct)) w w1) := HF.out.mono (fun j _ h => h.elim Or.inl (fun e => Or.inr (Or.inr (Or.inl e))))
    go_wp2_with (at_builtin; refine Stop.mk ?_)
    refine Stop.go ?_
    have hb2 : Below w1.heap.size w1 (w1.alloc (.cells #[.slice none 0 0] 24)) := (Below.refl _ _).alloc (Nat.le_refl _) _
    refine wpList_append_cells _ rfl (.tmp 35) (.tmp 37) 22 rfl b0 24 j0 _ 24 Tryz.underlying22 hj hy0 hy1 hy2 rfl (.slice At k ct) k vts rfl (own_below OTW.out hb2) (some ⟨w1.heap.size, 0, none⟩) 1 1 [.slice none 0 0] rfl (Cells.one w1 (.slice none 0 0) 24) (by intro u hu; simp at hu; subst hu; rfl) (by omega) (by omega) (Nat.le_trans hszW hb2.size) ?_
    intro v3 W3 hO3 hg3 hat3
    obtain ⟨A3, c3, rfl⟩ := own_form hO3
    have bt3 := (BTW.out.below hb2 BTW.out.lt).grown hg3 (fun e => own_blk_ne OTW.out BTW.out (by decide) e.symm)
    have t3 := bt3.cell 0
    change _ = some (Value.slice At k ct) at t3
    have f3 := bt3.frozen
    have HB3 := Lib.hid bt3
    have HO3 := Lib.hid hO3
    have F34 : Fm (M2 bt (.slice At k ct)) w1 (W3.setCell ⟨bt, 0, none⟩ (.slice A3 (k + 1) c3)) := Fm.set2 (Fm.grown (Fm.of_below hb2) hg3 (fun k _ h => Or.inr h)) 0 _
    have HF34 := Lib.hid F34
    have HAT := Lib.hid hat3
    clear bt3 hO3 hg3 hat3 F34
    go_wp2
    go_ret
    have hI2 : Its 0 w1 (M2 bt (.slice At k ct)) := Its.m2 BTW.out (by decide) (Nat.zero_le _) OTW.out (by decide) (Nat.zero_le _)
    refine ⟨rfl, .slice A9 (k + 1) c9, .slice A3 (k + 1) c3, its', .slice none 0 0, BPW.out.fm HF34.out (fun h => h.elim (BPW.out.ne_ BTW.out (by decide)) (fun e => own_blk_ne OTW.out BPW.out (by decide) e)), own_fm O9W.out HF34.out (fun j hj h => h.elim (fun e => own_blk_ne O9W.out BTW.out (by decide) (e ▸ hj)) (fun e => own_apart O9W.out OTW.out (by decide) hj e)),
      HB3.out.set_ 0 _, own_set HO3.out (p := ⟨bt, 0, none⟩) HB3.out (by decide) _, RDT.out.fm HF34.out hI2, HAT.out.imp id (fun e => ⟨_, e, Nat.le_trans hszW0 hb2.size⟩), FW.out.trans' HF34.out (fun j _ h => h.elim (fun e => Or.inr (Or.inl e)) (fun e => Or.inr (Or.inr (Or.inr e))))⟩
  · obtain ⟨m, rfl⟩ : ∃ m, n = m + 1 := ⟨n - 1, by omega⟩
    obtain ⟨xi, xt, rfl⟩ : ∃ xi xt, xss = xi ++ [xt] := ⟨xss.dropLast, xss.getLast (by intro e; simp [e] at hlen), (List.dropLast_concat_getLast _).symm⟩
    obtain ⟨vi, vt, rfl⟩ : ∃ vi vt, vs = vi ++ [vt] := ⟨vs.dropLast, vs.getLast (by intro e; have h := HC1.out.1; simp [e] at h), (List.dropLast_concat_getLast _).symm⟩
    have hvl : vi.length = m := by have h := HC1.out.1; simp at h; omega
    have htop : (xi ++ [xt]).getLastD [] = xt := by simp
    have hrt := HR1.out.init.2
    obtain ⟨Ax, cx, rfl, hcx⟩ := hrt.slice
    obtain ⟨b, o, hbo, hcl⟩ := HC1.out.2 (by omega)
    injection hbo with hbo
    injection hbo with hb1 hb2
    subst hb1
    subst hb2
    have hcm := hcl m (.slice Ax xt.length cx) (by simp [← hvl])
    rw [Nat.zero_add] at hcm
    have hxl := HX.out xt (by simp)
    have hm1 : ((m : Int) + 1) - 1 = m := by omega
    have HCP := Lib.hid (copied_any w1 0 xt.length cx Ax xt hrt (by omega))
    rw [htop]
    clear hrt hcl hcx
    go_wp2_with fail
    refine HCP.out.mono ?_
    rintro e w2 ⟨A2, c2, rfl, ho2, hbw⟩
    have OTW := Lib.hid (own_below OT1.out hbw)
    have BTW := Lib.hid (BT1.out.below hbw BT1.out.lt)
    have BPW := Lib.hid (HB9.out.below hbw HB9.out.lt)
    have O9W := Lib.hid (own_below HO9.out hbw)
    have RDT := Lib.hid (Rd.of_own (B := 0) ho2 (by decide))
    have FW : Hid (Fm (Mt bp bt (.slice Ap k cp) (.slice At k ct)) w w2) := (HF.out.mono (fun j _ h => h.elim Or.inl (fun e => Or.inr (Or.inr (Or.inl e))))).below hbw
    have hszW : b0 ≤ w2.heap.size := Nat.le_trans hb0 (Nat.le_trans hsz hbw.size)
    have hszW0 : w.heap.size ≤ w2.heap.size := Nat.le_trans hsz hbw.size
    have t0 := BTW.out.cell 0
    change _ = some (Value.slice At k ct) at t0
    clear ho2 hbw HCP
    go_wp2_with (at_builtin; refine Stop.mk ?_)
    refine Stop.go ?_
    have hb2 : Below w2.heap.size w2 (w2.alloc (.cells #[.slice A2 xt.length c2] 24)) := (Below.refl _ _).alloc (Nat.le_refl _) _
    refine wpList_append_cells _ rfl (.tmp 35) (.tmp 37) 22 rfl b0 24 j0 _ 24 Tryz.underlying22 hj hy0 hy1 hy2 rfl (.slice At k ct) k vts rfl (own_below OTW.out hb2) (some ⟨w2.heap.size, 0, none⟩) 1 1 [.slice A2 xt.length c2] rfl (Cells.one w2 (.slice A2 xt.length c2) 24) (by intro u hu; simp at hu; subst hu; rfl) (by omega) (by omega) (Nat.le_trans hszW hb2.size) ?_
    intro v3 W3 hO3 hg3 hat3
    obtain ⟨A3, c3, rfl⟩ := own_form hO3
    have bt3 := (BTW.out.below hb2 BTW.out.lt).grown hg3 (fun e => own_blk_ne OTW.out BTW.out (by decide) e.symm)
    have t3 := bt3.cell 0
    change _ = some (Value.slice At k ct) at t3
    have f3 := bt3.frozen
    have HB3 := Lib.hid bt3
    have HO3 := Lib.hid hO3
    have F34 : Fm (M2 bt (.slice At k ct)) w2 (W3.setCell ⟨bt, 0, none⟩ (.slice A3 (k + 1) c3)) := Fm.set2 (Fm.grown (Fm.of_below hb2) hg3 (fun k _ h => Or.inr h)) 0 _
    have HF34 := Lib.hid F34
    have HAT := Lib.hid hat3
    clear bt3 hO3 hg3 hat3 F34
    go_wp2
    go_ret
    have hI2 : Its 0 w2 (M2 bt (.slice At k ct)) := Its.m2 BTW.out (by decide) (Nat.zero_le _) OTW.out (by decide) (Nat.zero_le _)
    refine ⟨rfl, .slice A9 (k + 1) c9, .slice A3 (k + 1) c3, its', .slice A2 xt.length c2, BPW.out.fm HF34.out (fun h => h.elim (BPW.out.ne_ BTW.out (by decide)) (fun e => own_blk_ne OTW.out BPW.out (by decide) e)), own_fm O9W.out HF34.out (fun j hj h => h.elim (fun e => own_blk_ne O9W.out BTW.out (by decide) (e ▸ hj)) (fun e => own_apart O9W.out OTW.out (by decide) hj e)),
      HB3.out.set_ 0 _, own_set HO3.out (p := ⟨bt, 0, none⟩) HB3.out (by decide) _, by rw [htop]; exact RDT.out.fm HF34.out hI2, HAT.out.imp id (fun e => ⟨_, e, Nat.le_trans hszW0 hb2.size⟩), FW.out.trans' HF34.out (fun j _ h => h.elim (fun e => Or.inr (Or.inl e)) (fun e => Or.inr (Or.inr (Or.inr e))))⟩

/-- What has been told, and nothing else has turned: these tops. -/
structure TIW (w0 : World) (b0 g bp bt : Nat) (tops : List (List UInt8)) (B : Bd) (w : World) : Prop where
  below : Below b0 w0 w
  size : b0 ≤ w.heap.size
  bn : b0 ≤ B.n
  hg : b0 ≤ g
  hp : b0 ≤ bp
  ht : b0 ≤ bt
  ex : ∃ (Ap At : Option Addr) (cp ct : Nat) (its vts : List Value), Blk w bp 27 #[.slice Ap tops.length cp] ∧ w.ownsRow b0 46 2 (.slice Ap tops.length cp) tops.length its ∧
    Blk w bt 22 #[.slice At tops.length ct] ∧ w.ownsRow b0 24 1 (.slice At tops.length ct) tops.length vts ∧ (∀ k, (Value.slice At tops.length ct).ownBlock = some k → B.x k) ∧ RdL 0 w vts tops

theorem told_w (w0 : World) (b0 g bp bt : Nat) : Told g 11 #[.pointer (some ⟨bp, 0, none⟩), .pointer (some ⟨bt, 0, none⟩)] (TIW w0 b0 g bp bt) where
  step := by
    intro w w' B cs xss tops hV hTI hF
    obtain ⟨Ap, At, cp, ct, its, vts, h1, h2, h3, h4, h5, h6⟩ := hTI.ex
    refine ⟨Below.trans' hTI.below hTI.size (hF.toBelow hTI.size hTI.hg hTI.bn), Nat.le_trans hTI.size hF.size, hTI.bn, hTI.hg, hTI.hp, hTI.ht, Ap, At, cp, ct, its, vts,
      hF.blk h1 (h1.ne_ hV.blk (by decide)) (.inr (by decide)), own_fm h2 hF ?_, hF.blk h3 (h3.ne_ hV.blk (by decide)) (.inr (by decide)), own_fm h4 hF ?_, h5, hF.rdl hV.blk h6⟩
    · rintro j hj (e | ⟨-, -, cs', fr, hh⟩)
      · exact own_blk_ne h2 hV.blk (by decide) (e ▸ hj)
      · obtain ⟨cur, h7, -⟩ := own_lt h2 hj
        rw [h7] at hh
        injection hh with hh
        injection hh with _ hh
        exact absurd hh (by decide)
    · rintro j hj (e | ⟨-, hX, -⟩)
      · exact own_blk_ne h4 hV.blk (by decide) (e ▸ hj)
      · exact hX (h5 j hj)
  tell := by
    intro w w1 B cs xss tops si x y T TA vs hV hTI hb hsi hsT ht hl hx hx1 hy1 hblk hc hr
    obtain ⟨Ap, At, cp, ct, its, vts, h1, h2, h3, h4, h5, h6⟩ := hTI.ex
    have b1 := h1.below hb h1.lt
    have o1 := own_below h2 hb
    have b2 := h3.below hb h3.lt
    have o2 := own_below h4 hb
    have hV1 := hV.below hb
    have hnT : ¬ Mt bp bt (.slice Ap tops.length cp) (.slice At tops.length ct) T := by
      rintro (e | e | e | e)
      · have := h1.lt
        omega
      · have := h3.lt
        omega
      · obtain ⟨cur, h7, -⟩ := own_lt h2 e
        have := (Array.getElem?_eq_some_iff.1 h7).1
        omega
      · obtain ⟨cur, h7, -⟩ := own_lt h4 e
        have := (Array.getElem?_eq_some_iff.1 h7).1
        omega
    refine (told_fn w1 b0 si bp bt x y T xss.length xss.length tops.length cp ct Ap At _ its vts vs xss hblk b1 o1 b2 o2 hc hr hl (by omega) (Nat.le_trans hTI.size hb.size) hx hnT).mono ?_
    rintro e w2 ⟨rfl, vp', vt', its', v, k1, k2, k3, k4, k5, k6, k7⟩
    have hI := mt_its b1 o1 b2 o2
    have hrd : ∀ (v : Value) (bs : List UInt8), Rd 0 w1 v bs → Rd 0 w2 v bs := fun v bs h => h.fm k7 hI
    obtain ⟨A1, c1, rfl⟩ := own_form k2
    obtain ⟨A2, c2, rfl⟩ := own_form k4
    have hlen : (tops ++ [xss.getLastD []]).length = tops.length + 1 := by simp
    obtain ⟨As, cS, items, s1, s2, s3⟩ := hV1.stk
    have hltS : ∀ j, (Value.slice As xss.length cS).ownBlock = some j → j < w1.heap.size := fun j hj => by
      obtain ⟨cur, h7, -⟩ := own_lt s2 hj
      exact (Array.getElem?_eq_some_iff.1 h7).1
    refine ⟨rfl, ⟨B.n, fun j => B.x j ∨ (Value.slice A2 (tops.length + 1) c2).ownBlock = some j⟩, ⟨hV1.blk.fm k7 (mt_ne b1 o1 b2 o2 hV1.blk (by decide) (by decide) (by decide) (by decide)), ⟨Nat.le_trans hV1.base.le_ k7.size, ?_⟩, ?_, As, cS, items, s1, own_fm s2 k7 ?_, s3.fm k7 hI⟩, ?_, hblk.fm k7 (mt_ne b1 o1 b2 o2 hblk (by decide) (by decide) (by decide) (by decide)), hrd⟩
    · rintro j (hj | hj)
      · exact Nat.lt_of_lt_of_le (hV1.base.lt_ j hj) k7.size
      · obtain ⟨cur, h7, -⟩ := own_lt k4 hj
        exact (Array.getElem?_eq_some_iff.1 h7).1
    · rintro u j hu hj (hq | hq)
      · exact hV1.free u j hu hj hq
      · rw [s1] at hu
        injection hu with hu
        subst hu
        rcases k6 with e | ⟨j', e, he⟩
        · exact hV1.free _ j s1 hj (h5 j (e ▸ hq))
        · rw [e] at hq
          injection hq with hq
          have := hltS j hj
          omega
    · rintro j hj (e | e | e | e)
      · exact own_blk_ne s2 b1 (by decide) (e ▸ hj)
      · exact own_blk_ne s2 b2 (by decide) (e ▸ hj)
      · exact own_apart s2 o1 (by decide) hj e
      · exact hV1.free _ j s1 hj (h5 j e)
    · refine ⟨Below.trans' (Below.trans' hTI.below hTI.size (Below.lower hb hTI.size)) (Nat.le_trans hTI.size hb.size) (k7.toBelow (Nat.le_trans hTI.size hb.size) ?_), Nat.le_trans hTI.size (Nat.le_trans hb.size k7.size), hTI.bn, hTI.hg, hTI.hp, hTI.ht, A1, A2, c1, c2, its', vts ++ [v], ?_, ?_, ?_, ?_, ?_, ?_⟩
      · rintro j hj (e | e | e | e)
        · have := hTI.hp
          omega
        · have := hTI.ht
          omega
        · obtain ⟨cur, -, h7⟩ := own_lt h2 e
          omega
        · obtain ⟨cur, -, h7⟩ := own_lt h4 e
          omega
      · rw [hlen]; exact k1
      · rw [hlen]; exact k2
      · rw [hlen]; exact k3
      · rw [hlen]; exact k4
      · rw [hlen]; exact fun j hj => Or.inr hj
      · exact ((h6.below hb).fm k7 hI).snoc k5
end Go.Proofs.YtafpgikhcjildaaGreatDoor
