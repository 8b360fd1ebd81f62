/- Bytes of their own, the stack handed out, and the last check. -/
import Derived.Test.YtafpgikhcjildaaGreatDoorNumb
namespace Go.Proofs.YtafpgikhcjildaaGreatDoor
open Go.RowKit Go.Proofs

set_option maxRecDepth 100000

/-- Bytes of their own. -/
theorem copied_any (w : World) (B n c : Nat) (A : Option Addr) (bs : List UInt8) (h : Rd B w (.slice A n c) bs) (hn : n ≤ 1000000000) :
    Calls Tryz.prog 12 #[.slice A n c] w fun e w' => ∃ A' c', e = .returned (.slice A' n c') ∧ w'.ownsRow w.heap.size 5 1 (.slice A' n c') n (bv bs) ∧ Below w.heap.size w w' := by
  obtain ⟨i0, hi, hz0, hz1, hz2⟩ := info_parts info_u8
  have hown := Lib.hid (World.ownsRow_made (base := w.heap.size) (e := 5) (size := 1) w #[] 0 (Nat.le_refl _) (by simp [maxLen]) rfl)
  have hc := Lib.hid ((Cells.of_rd h).below ((Below.refl w.heap.size w).alloc (Nat.le_refl _) (.cells #[] 5)))
  have hone : Hid (∀ u ∈ bv bs, u.oneCell' = true) := by
    intro u hu
    simp only [bv, List.mem_map] at hu
    obtain ⟨b, _, rfl⟩ := hu
    rfl
  have hb : Hid (w.heap.size ≤ (w.alloc (.cells #[] 5)).heap.size) := by show _ ≤ _; simp
  clear h
  go_enter Tryz.func12, Tryz.ntmps12
  go_wp2_with (at_builtin; refine Stop.mk ?_)
  refine Stop.go ?_
  refine wpList_append_cells _ rfl (.tmp 3) (.tmp 4) 24 rfl w.heap.size 5 i0 _ 1 Tryz.underlying24 hi hz0 hz1 hz2 rfl _ 0 [] rfl hown.out A n c (bv bs) rfl hc.out hone.out (by omega) (by omega) hb.out ?_
  intro v' w1 hown' hgrow hat
  simp only [Nat.zero_add, List.nil_append] at hown'
  obtain ⟨A', c', rfl⟩ := own_form hown'
  have hbel : Below w.heap.size w w1 := ((Below.refl _ _).alloc (Nat.le_refl _) _).grown hgrow (by simp) (fun k hk => by injection hk with hk; exact Nat.le_of_eq hk)
  have HB := Lib.hid hbel
  have HO := Lib.hid hown'
  clear hbel hown' hgrow hat
  go_wp2
  go_ret
  exact ⟨_, _, rfl, HO.out, HB.out⟩

theorem copies_nil (w : World) (A : Option Addr) (c : Nat) :
    Calls Tryz.prog 21 #[.slice A 0 c] w fun e w' => e = .returned (.slice none 0 0) ∧ w = w' := by
  go_enter Tryz.func21, Tryz.ntmps21
  go_wp2
  refine wp_loop_rounds 1 ?_
  rw [rounds_succ]
  go_wp2
  go_ret
  exact ⟨rfl, rfl⟩

theorem copies_one (w : World) (b o c n cx : Nat) (A : Option Addr) (bs : List UInt8) (hc : w.cell? ⟨b, o, none⟩ = some (.slice A n cx)) (h : Rd 0 w (.slice A n cx) bs) (hn : n ≤ 1000000000) :
    Calls Tryz.prog 21 #[.slice (some ⟨b, o, none⟩) 1 c] w fun e w' => (∃ A' c', e = .returned (.slice A' 1 c')) ∧ Below w.heap.size w w' := by
  obtain ⟨i0, hi, hz0, hz1, hz2⟩ := info_parts info_rows
  have H := Lib.hid (copied_any w 0 n cx A bs h hn)
  clear h
  go_enter Tryz.func21, Tryz.ntmps21
  go_wp2
  refine wp_loop_rounds 2 ?_
  rw [rounds_succ]
  go_wp2_with fail
  refine H.out.mono ?_
  rintro e w1 ⟨A', c', rfl, -, hb⟩
  have HB := Lib.hid hb
  clear hb
  go_wp2_with (at_builtin; refine Stop.mk ?_)
  refine Stop.go ?_
  refine wpList_append_cells _ rfl (.tmp 11) (.tmp 17) 22 rfl w.heap.size 24 i0 _ 24 Tryz.underlying22 hi hz0 hz1 hz2 rfl (.slice none 0 0) 0 [] rfl ⟨rfl, .inl ⟨rfl, rfl⟩⟩ (some ⟨w1.heap.size, 0, none⟩) 1 1 [.slice A' n c'] rfl (Cells.one w1 _ _) (by intro u hu; simp at hu; subst hu; rfl) (by omega) (by omega) (by have := HB.out.size; simp; omega) ?_
  intro v' w2 hown' hgrow hat
  simp only [Nat.zero_add, List.nil_append] at hown'
  obtain ⟨A2, c2, rfl⟩ := own_form hown'
  have HB2 := Lib.hid ((HB.out.alloc HB.out.size _).grown hgrow (by simp; have := HB.out.size; omega) (fun k hk => by simp [Value.ownBlock] at hk))
  clear hown' hgrow hat
  go_wp2
  rw [rounds_succ]
  go_wp2
  go_ret
  exact ⟨⟨_, _, rfl⟩, HB2.out⟩

theorem make00 : ∀ w : World, (Instr.makeSlice 22 (.int .i32 0) (.int .i32 0)).run Tryz.prog w = .ok (.slice (some ⟨w.heap.size, 0, none⟩) 0 0) (w.alloc (.cells #[] 24)) := fun _ => by kernel_rfl
theorem make11 : ∀ w : World, (Instr.makeSlice 22 (.int .i32 1) (.int .i32 1)).run Tryz.prog w = .ok (.slice (some ⟨w.heap.size, 0, none⟩) 1 1) (w.alloc (.cells #[.slice none 0 0] 24)) := fun _ => by kernel_rfl

theorem getStack0 (w : World) (b o c : Nat) (A : Option Addr) (h : w.cell? ⟨b, o, none⟩ = some (.slice A 0 c)) :
    Calls Tryz.prog 65 #[.pointer (some ⟨b, o, none⟩)] w fun e w' => (∃ A' c', e = .returned (.slice A' 0 c')) ∧ Below w.heap.size w w' := by
  have hm := make00
  have HD := Lib.hid (depth_any w b o 0 c A (by omega) h)
  go_enter Tryz.func65, Tryz.ntmps65
  go_wp2_with fail
  refine HD.out.mono ?_
  rintro e w1 ⟨rfl, rfl⟩
  go_wp2
  refine wp_loop_rounds 1 ?_
  rw [rounds_succ]
  go_wp2
  go_ret
  exact ⟨⟨_, _, rfl⟩, (Below.refl _ _).alloc (Nat.le_refl _) _⟩

theorem getStack1 (w : World) (g : Nat) (B : Bd) (cs : Array Value) (xs : List UInt8) (h : Vm w g B cs [xs]) :
    Calls Tryz.prog 65 #[.pointer (some ⟨g, 23, none⟩)] w fun e w' => ∃ b A c, e = .returned (.slice (some ⟨b, 0, none⟩) 1 1) ∧ w'.cell? ⟨b, 0, none⟩ = some (.slice A xs.length c) ∧
      Rd 0 w' (.slice A xs.length c) xs ∧ Below w.heap.size w w' := by
  have hm := make11
  obtain ⟨A0, c0, items, h23, -, -⟩ := h.stk
  have HD := Lib.hid (depth_any w g 23 1 c0 A0 (by omega) ((h.blk.cell 23).trans h23))
  have hbel : Below w.heap.size w (w.alloc (.cells #[.slice none 0 0] 24)) := (Below.refl _ _).alloc (Nat.le_refl _) _
  have HP := Lib.hid (peek_vm (w.alloc (.cells #[.slice none 0 0] 24)) g B cs [] xs (h.below hbel) (by simp))
  clear h h23 hbel
  go_enter Tryz.func65, Tryz.ntmps65
  go_wp2_with fail
  refine HD.out.mono ?_
  rintro e w1 ⟨rfl, rfl⟩
  go_wp2
  refine wp_loop_rounds 2 ?_
  rw [rounds_succ]
  go_wp2_with fail
  refine HP.out.mono ?_
  rintro e w1 ⟨A, c, rfl, hr, rfl⟩
  have HR := Lib.hid hr
  clear hr
  go_wp2
  rw [rounds_succ]
  go_wp2
  go_ret
  have hf : Fm (M1 w.heap.size) (w.alloc (.cells #[.slice none 0 0] 24)) (w.alloc (.cells #[.slice A xs.length c] 24)) := by
    have e : (w.alloc (.cells #[.slice none 0 0] 24)).setCell ⟨w.heap.size, 0, none⟩ (.slice A xs.length c) = w.alloc (.cells #[.slice A xs.length c] 24) := by
      rw [World.setCell_alloc_new]; rfl
    rw [← e]
    exact (Fm.refl _ _).set1 0 _
  refine ⟨w.heap.size, A, c, rfl, ?_, HR.out.fm hf ?_, (Below.refl _ _).alloc (Nat.le_refl _) _⟩
  · exact (Blk.new w 24 #[.slice A xs.length c]).cell 0
  · rintro k hk rfl
    exact ⟨Nat.zero_le _, _, _, _, Blk.new w 24 #[.slice none 0 0], by simp [Sx]⟩

theorem getStack_g (w : World) (g : Nat) (R : Ending → World → Prop) (hg : g < w.heap.size) (hR : ∀ e w', R e w' → ∃ A n c, e = .returned (.slice A n c))
    (h : Calls Tryz.prog 65 #[.pointer (some ⟨g, 23, none⟩)] w R) :
    Calls Tryz.prog 41 #[.pointer (some ⟨g, 0, none⟩)] w R := by
  have H := Lib.hid h
  have HR := Lib.hid hR
  clear h hR
  go_enter Tryz.func41, Tryz.ntmps41
  go_wp2_with fail
  refine H.out.mono ?_
  intro e w1 hr
  obtain ⟨A, n, c, rfl⟩ := HR.out _ _ hr
  have hr := Lib.hid hr
  go_wp2
  exact hr.out

theorem popBool_vm (w : World) (g : Nat) (B : Bd) (cs : Array Value) (xss : List (List UInt8)) (h : Vm w g B cs (xss ++ [[1]])) (hn : xss.length ≤ 100000) :
    Calls Tryz.prog 45 #[.pointer (some ⟨g, 23, none⟩)] w fun e w' => e = .returned (.tuple #[.bool true, .nilIface]) ∧
      ∃ cs', Vm w' g B cs' xss ∧ K23 cs cs' ∧ Fs g B w w' := by
  obtain ⟨A, c, items, h1, h2, h3⟩ := h.stk
  have hl : items.length = xss.length + 1 := by rw [h3.1]; simp
  obtain ⟨its, x, rfl⟩ : ∃ its x, items = its ++ [x] := ⟨items.dropLast, items.getLast (by intro e; simp [e] at hl), (List.dropLast_concat_getLast _).symm⟩
  obtain ⟨h4, h5⟩ := h3.init
  obtain ⟨Ax, cx, rfl, hcx⟩ := h5.slice
  have e : (xss ++ [[1]]).length = xss.length + 1 := by simp
  rw [e] at h1 h2
  refine (popBool_any w g 23 _ B.n xss.length cs A Ax c 1 cx its true h.blk h1 h2 (by decide) hn ?_).mono ?_
  · intro w' hf
    obtain ⟨b, o, rfl, hc⟩ := (Fs.of_m1 (B := B) hf).rd h.blk h5 |>.cell (j := 0) (by simp)
    exact .inr ⟨b, o, rfl, rfl, rfl, by simpa using hc⟩
  rintro e w' ⟨rfl, hb, ho, hf⟩
  have hfs : Fs g B w w' := Fs.of_m1 hf
  exact ⟨rfl, _, ⟨hb, h.base.le hf.size, free_here h1 h.free, A, c, its, get_here h1, ho, hfs.rdl h.blk h4⟩, K23.set _ _, hfs⟩

theorem witActive_any (w : World) (g : Nat) (x : Value) (h : w.cell? ⟨g, 30, none⟩ = some (.slice none 0 0)) :
    Calls Tryz.prog 44 #[.pointer (some ⟨g, 0, none⟩), x] w fun e w' => e = .returned (.bool false) ∧ w = w' := by
  go_enter Tryz.func44, Tryz.ntmps44
  go_wp2
  go_ret
  exact ⟨rfl, rfl⟩

/-- The last check, where one truth is left. -/
theorem check_fine (w : World) (g : Nat) (B : Bd) (sb : Nat) (fl : Int) (cs : Array Value) (h : Vm w g B cs [[1]]) (h0 : cs[0]? = some (.int .u32 fl)) (hfl : bits .and .u32 fl 32 = 0) (h30 : cs[30]? = some (.slice none 0 0)) (h32 : cs[32]? = some (.pointer none))
    (h11 : cs[11]? = some (.slice (some ⟨sb, 0, none⟩) 2 2)) (h12 : cs[12]? = some (.int .i64 2)) :
    Calls Tryz.prog 25 #[.pointer (some ⟨g, 0, none⟩), .bool true] w fun e w' => e = .returned .nilIface ∧ ∃ cs', Vm w' g B cs' [] ∧ Fs g B w w' := by
  have c0 := (h.blk.cell 0).trans h0
  have c11 := (h.blk.cell 11).trans h11
  have c12 := (h.blk.cell 12).trans h12
  have c30 := (h.blk.cell 30).trans h30
  have c32 := (h.blk.cell 32).trans h32
  obtain ⟨A0, cc0, items, h23, -, -⟩ := h.stk
  have c23 := (h.blk.cell 23).trans h23
  have hbl := h.blk.lt
  have HV := Lib.hid h
  clear h h0 h11 h12 h30 h32 h23
  go_enter Tryz.func25, Tryz.ntmps25
  go_wp2_with fail
  go_quiet (fail)
  go_wp2_with fail
  refine (witActive_any (w.drewN nq) g _ c30).mono ?_
  rintro e w1 ⟨rfl, rfl⟩
  go_wp2_with fail
  refine (hasFlag_any (w.drewN nq) g fl 32 0 hfl c0).mono ?_
  rintro e w1 ⟨rfl, rfl⟩
  go_wp2_with fail
  refine (depth_any (w.drewN nq) g 23 1 cc0 A0 (by omega) c23).mono ?_
  rintro e w1 ⟨rfl, rfl⟩
  go_wp2_with fail
  refine (popBool_vm (w.drewN nq) g B _ [] (HV.out.drewN nq) (by simp)).mono ?_
  rintro e w1 ⟨rfl, cs', hv, -, hf⟩
  have hv := Lib.hid hv
  have hf := Lib.hid (((Fs.refl g B w).drewN _).trans hf)
  go_wp2
  go_ret
  exact ⟨rfl, cs', hv.out, hf.out⟩

end Go.Proofs.YtafpgikhcjildaaGreatDoor
