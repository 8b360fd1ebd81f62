/- The walk of FnLockGreater. -/
import Derived.Test.YtfjnhnfghhaehaaGreatDoorAlone
import Derived.Test.YtfjnhnfghhaehaaGreatDoorRunLock
namespace Go.Proofs.YtfjnhnfghhaehaaGreatDoor
open Go.RowKit Go.Proofs

set_option maxRecDepth 100000

theorem numBytes_all (w : World) (q : Nat) (hq : q < 549755813888) :
    Calls Tryz.prog 5 #[.int .i64 q] w fun e w' => ∃ A c, e = .returned (.slice A (numB q).length c) ∧ Rd 0 w' (.slice A (numB q).length c) (numB q) ∧ Below w.heap.size w w' := by
  rcases Nat.eq_zero_or_pos q with rfl | h0
  · refine (numBytes_zero w).mono ?_
    rintro e w' ⟨rfl, rfl⟩
    have e0 : numB 0 = [] := by unfold numB leB; simp
    rw [e0]
    exact ⟨none, 0, rfl, Rd.nil _ _ _ _, Below.refl _ _⟩
  · refine (numBytes_any w q h0 hq).mono ?_
    rintro e w' ⟨A, c, rfl, ho, hb⟩
    exact ⟨A, c, rfl, Rd.of_own ho (by decide), hb⟩

theorem enc_le (t : Tok) : t.enc.length ≤ t.data.length + 3 := by
  unfold Tok.enc
  repeat' split
  all_goals simp
theorem data_le (d : List UInt8) : (pushT d).data.length ≤ d.length := by
  unfold pushT
  repeat' split
  all_goals simp
theorem enc_len (d : List UInt8) (hd : NumOk d) : (pushT d).enc.length ≤ 100 := by
  have h1 := enc_le (pushT d)
  have h2 := data_le d
  have h3 := hd.1
  omega

theorem Cells.two (w : World) (u v : Value) (t : TypeId) : Cells (w.alloc (.cells #[u, v] t)) (some ⟨w.heap.size, 0, none⟩) 2 [u, v] := by
  refine ⟨rfl, fun _ => ⟨w.heap.size, 0, rfl, fun j x hx => ?_⟩⟩
  rw [cell_of_row _ w.heap.size (0 + j) #[u, v] t (0, 0) (heap_alloc_new w _)]
  match j, hx with
  | 0, hx => simpa using hx
  | 1, hx => simpa using hx

theorem own_rd {w : World} {base n c : Nat} {e : TypeId} {A : Option Addr} {bs : List UInt8} (h : w.ownsRow base e 1 (.slice A n c) n (bv bs)) (he : e ∉ Sx) : Rd 0 w (.slice A n c) bs := by
  have hl : n = bs.length := by have := h.1; simp [bv_length] at this; exact this.symm
  subst hl
  exact Rd.of_own h he
/-- The cells of a spend as it is made. -/
def zs : Array Value := #[.slice none 0 0, .int .i64 0, .int .i32 0, .slice none 0 0, .slice none 0 0, .int .u32 0, .int .i64 0, .int .u32 0]
/-- The cells of a script's spend. -/
def spend (A : Option Addr) (n c ri k ro m : Nat) (lock : Int) : Array Value := #[.slice A n c, .int .i64 0, .int .i32 2, .slice (some ⟨ri, 0, none⟩) 1 k, .slice (some ⟨ro, 0, none⟩) 1 m, .int .u32 lock, .int .i64 0, .int .u32 8]
theorem spend_one (A : Option Addr) (n c ri k ro m : Nat) (lock : Int) : (spend A n c ri k ro m lock).all (·.oneCell') = true := by simp [spend, Value.oneCell']

theorem run_spend (w : World) (A : Option Addr) (n c ri k ro m l : Nat) (d : List UInt8) (hd : NumOk d) (hl : l < 4294967296) (hr : Rd 0 w (.slice A n c) (code (lockT d))) (hn : n ≤ 10000)
    (hri : Blk w ri 45 inCells.toArray) (hro : Blk w ro 47 #[.int .i64 1, .slice none 0 0]) :
    Calls Tryz.prog 7 #[.agg (spend A n c ri k ro m l)] w (RunPost w d l) := by
  have hb : ∀ o, Below w.heap.size w (w.alloc o) := fun o => (Below.refl _ _).alloc (Nat.le_refl _) o
  exact run_lock w d l hd hl _ _ _ _ _ _ _ _ (by intro v hv; simp at hv; rcases hv with rfl | rfl | rfl | rfl | rfl | rfl | rfl | rfl <;> rfl)
    (engine_lock inCells.toArray tx_said _ A n c ri ro k m l d hd hl (hr.below (hb _)) hn (hri.below (hb _) hri.lt) (hro.below (hb _) hro.lt))

/-- What the two runs tell. -/
theorem runs_tell {q l g : Nat} {k k' : Int} {b : Bool} (hb1 : decide ((l : Int) < 500000000) = b) (hb2 : decide ((g : Int) < 500000000) = b) (hle : (l : Int) ≤ g)
    (hm : k = 0 ↔ Met (leV (numB q)) l) (hm' : k' = 0 ↔ Met (leV (numB q)) g) :
    (k = 0 ∧ k' = 0 ∧ decide ((q : Int) ≤ l) = true ∧ decide ((q : Int) < 500000000) = b) ∨
      (¬ k = 0 ∧ (decide ((q : Int) ≤ l) = false ∨ (decide ((q : Int) ≤ l) = true ∧ decide ((q : Int) < 500000000) = !b))) := by
  rw [leV_numB] at hm hm'
  have hlg : (l : Int) < 500000000 ↔ (g : Int) < 500000000 := by
    rw [← decide_eq_decide, hb1, hb2]
  subst hb1
  by_cases h : Met q l
  · exact .inl ⟨hm.2 h, hm'.2 ⟨Int.le_trans h.1 hle, h.2.trans hlg⟩, decide_eq_true h.1, decide_eq_decide.2 h.2⟩
  · refine .inr ⟨fun e => h (hm.1 e), ?_⟩
    by_cases h1 : (q : Int) ≤ l
    · refine .inr ⟨decide_eq_true h1, ?_⟩
      have hn : ¬ ((q : Int) < 500000000 ↔ (l : Int) < 500000000) := fun e => h ⟨h1, e⟩
      by_cases h2 : (q : Int) < 500000000 <;> by_cases h3 : (l : Int) < 500000000 <;> simp [h2, h3] at hn ⊢
    · exact .inl (decide_eq_false h1)

theorem law_main (w : World) (q l g : Nat) (b : Bool) (hq : (q : Int) < 549755813888) (hl : (l : Int) < 4294967296) (hg : (g : Int) < 4294967296) (hlg : (l : Int) ≤ g)
    (hb1 : decide ((l : Int) < 500000000) = b) (hb2 : decide ((g : Int) < 500000000) = b) :
    Calls Tryz.prog 3 #[.int .i64 q, .int .u32 l, .int .u32 g] w fun e w' => e = .returned (.bool true) ∧ Below w.heap.size w w' := by
  have hq0 : ¬ ((q : Int) < 0) := by omega
  have hq1 : ¬ (549755813888 ≤ (q : Int)) := by omega
  have hq2 : Hid (q < 549755813888) := show _ < _ by omega
  have hg1 : ¬ ((g : Int) < l) := by omega
  have hl2 : Hid (l < 4294967296) := show _ < _ by omega
  have hg2 : Hid (g < 4294967296) := show _ < _ by omega
  have HL := Lib.hid hlg
  clear hl hg hlg
  have HQ := Lib.hid hq
  clear hq
  go_enter Tryz.func3, Tryz.ntmps3
  go_wp2_with fail
  refine (numBytes_all w q hq2.out).mono ?_
  rintro e w1 ⟨A1, c1, rfl, hr1, hB1⟩
  have hd := Lib.hid (numOk_numB q hq2.out)
  have hP := Lib.hid (push_spec w1 0 A1 c1 (numB q) hd.out hr1)
  have HB1 := Lib.hid hB1
  clear hr1 hB1 hq0 hq1 hg1
  go_wp2_with fail
  refine hP.out.mono ?_
  rintro e w2 ⟨A2, c2, rfl, ho2, hB2⟩
  have HB2 := Lib.hid (Below.trans' HB1.out HB1.out.size (Below.lower hB2 HB1.out.size))
  have HO2 := Lib.hid (own_lower ho2 HB1.out.size)
  have hen := Lib.hid (enc_len _ hd.out)
  clear ho2 hB2 hP HB1
  obtain ⟨i0, hi, hz0, hz1, hz2⟩ := info_parts info_u8
  go_wp2_with (at_builtin; refine Stop.mk ?_)
  refine Stop.go ?_
  have hsz2 := HB2.out.size
  refine wpList_append_cells _ rfl (.tmp 35) (.tmp 36) 23 rfl w.heap.size 5 i0 _ 1 Tryz.underlying23 hi hz0 hz1 hz2 rfl _ (pushT (numB q)).enc.length (bv (pushT (numB q)).enc) rfl (own_below HO2.out ((Below.refl _ _).alloc (Nat.le_refl _) _))
    (some ⟨w2.heap.size, 0, none⟩) 2 2 [.int .u8 177, .int .u8 117] rfl (Cells.two w2 _ _ _) (by intro u hu; simp at hu; rcases hu with rfl | rfl <;> rfl) (by have := hen.out; omega) (by omega) (by simp; omega) ?_
  intro v3 W3 hown hgrow hat
  have hown' : W3.ownsRow w.heap.size 5 1 v3 ((pushT (numB q)).enc ++ [177, 117]).length (bv ((pushT (numB q)).enc ++ [177, 117])) := by
    rw [bv_append, List.length_append]
    exact hown
  have HB3 := Lib.hid ((HB2.out.alloc hsz2 _).grown hgrow (by simp; omega) (fun k hk => (HO2.out.lt k hk).1))
  have hcode : Hid ((pushT (numB q)).enc ++ [177, 117] ++ [81] = code (lockT (numB q))) := by
    show _ = _
    rw [lock_code]
    simp
  have hlen : ((pushT (numB q)).enc ++ [177, 117]).length ≤ 102 := by
    have := hen.out
    simp
    omega
  clear hown hgrow hat HO2 HB2 hsz2 hen
  generalize (pushT (numB q)).enc ++ [177, 117] = S at *
  obtain ⟨A3, c3, rfl⟩ := own_form hown'
  have HR3 := Lib.hid (Rd.of_own (B := 0) hown' (by decide))
  clear hown'
  go_wp2_with fail
  refine (alone_any W3 A3 S.length c3 S HR3.out (by omega)).mono ?_
  rintro e w4 ⟨A4, c4, ri4, ro4, k4, m4, rfl, ho4, hri4, hro4, hb4⟩
  have HR4 := Lib.hid (own_rd ho4 (by decide))
  have HI4 := Lib.hid hri4
  have HO4 := Lib.hid hro4
  have HR34 := Lib.hid (HR3.out.below hb4)
  have HB4 := Lib.hid (Below.trans' HB3.out HB3.out.size (Below.lower hb4 HB3.out.size))
  clear ho4 hri4 hro4 hb4 HR3 HB3
  go_wp2_with fail
  refine (alone_any w4 A3 S.length c3 S HR34.out (by omega)).mono ?_
  rintro e w5 ⟨A5, c5, ri5, ro5, k5, m5, rfl, ho5, hri5, hro5, hb5⟩
  have HR5 := Lib.hid (own_rd ho5 (by decide))
  have HI5 := Lib.hid hri5
  have HO5 := Lib.hid hro5
  have HR45 := Lib.hid (HR4.out.below hb5)
  have HI45 := Lib.hid (HI4.out.below hb5 HI4.out.lt)
  have HO45 := Lib.hid (HO4.out.below hb5 HO4.out.lt)
  have HB5 := Lib.hid (Below.trans' HB4.out HB4.out.size (Below.lower hb5 HB4.out.size))
  clear ho5 hri5 hro5 hb5 HR4 HI4 HO4 HR34 HB4
  go_wp2_with (refine wpList_alloc 32 rfl rfl zs (by kernel_rfl) ?_; refine Stop.mk ?_)
  refine Stop.go ?_
  change wpList _ _ _ _ _ ((w5.alloc (.cells zs 32)).alloc (.cells zs 32))
  have hT8 := (Blk.new w5 32 zs).alloc (.cells zs 32)
  have hT9 := Blk.new (w5.alloc (.cells zs 32)) 32 zs
  have hs : (w5.alloc (.cells zs 32)).heap.size = w5.heap.size + 1 := by simp
  have hb7 : Below w5.heap.size w5 ((w5.alloc (.cells zs 32)).alloc (.cells zs 32)) := ((Below.refl _ _).alloc (Nat.le_refl _) _).alloc (by simp) _
  rw [hs] at hT9
  generalize (w5.alloc (.cells zs 32)).alloc (.cells zs 32) = W7 at *
  clear hs
  refine wpList_store_row rfl 32 (.tmp 8) (.tmp 39) rfl w5.heap.size (spend A4 (S.length + 1) c4 ri4 k4 ro4 m4 100) rfl rfl 32 zs hT8 info_spend rfl (spend_one _ _ _ _ _ _ _ _) ?_
  have hn98 : ¬ M1 w5.heap.size (w5.heap.size + 1) := fun h => Nat.succ_ne_self _ h
  have hT8' := hT8.setRow (spend A4 (S.length + 1) c4 ri4 k4 ro4 m4 100)
  have hF8 : Fm (M1 w5.heap.size) W7 (W7.setRow w5.heap.size (spend A4 (S.length + 1) c4 ri4 k4 ro4 m4 100)) := Fm.setRow (Fm.refl _ _) _
  have hT9' := hT9.fm hF8 hn98
  have hb8 := Below.fm hb7 hF8 hb7.size (fun k hk h => Nat.ne_of_lt hk h)
  clear hT8 hT9 hF8 hb7
  generalize W7.setRow w5.heap.size (spend A4 (S.length + 1) c4 ri4 k4 ro4 m4 100) = W8 at *
  refine wpList_store_row rfl 32 (.tmp 9) (.tmp 41) rfl (w5.heap.size + 1) (spend A5 (S.length + 1) c5 ri5 k5 ro5 m5 100) rfl rfl 32 zs hT9' info_spend rfl (spend_one _ _ _ _ _ _ _ _) ?_
  have hT9 := hT9'.setRow (spend A5 (S.length + 1) c5 ri5 k5 ro5 m5 100)
  have hF9 : Fm (M1 (w5.heap.size + 1)) W8 (W8.setRow (w5.heap.size + 1) (spend A5 (S.length + 1) c5 ri5 k5 ro5 m5 100)) := Fm.setRow (Fm.refl _ _) _
  have hT8 := hT8'.fm hF9 (fun h => Nat.succ_ne_self _ (Eq.symm h))
  have hb9 := Below.fm hb8 hF9 hb8.size (fun k hk h => by have h' : k = w5.heap.size + 1 := h; omega)
  clear hT8' hT9' hF9 hb8
  generalize W8.setRow (w5.heap.size + 1) (spend A5 (S.length + 1) c5 ri5 k5 ro5 m5 100) = W9 at *
  have c8 := hT8.cell 5
  change _ = some (Value.int .u32 100) at c8
  have c9 := hT9.cell 5
  change _ = some (Value.int .u32 100) at c9
  have f8 := hT8.frozen 5
  have f9 := hT9.frozen 5
  have l8 : w.heap.size ≤ w5.heap.size := HB5.out.size
  have hb10 : Below w5.heap.size w5 ((W9.setCell ⟨w5.heap.size, 5, none⟩ (.int .u32 l)).setCell ⟨w5.heap.size + 1, 5, none⟩ (.int .u32 g)) := (hb9.setCell (Nat.le_refl _) _).setCell (Nat.le_succ _) _
  have hn : ¬ (w5.heap.size = w5.heap.size + 1) := by omega
  have hn' : ¬ (w5.heap.size + 1 = w5.heap.size) := by omega
  have hX8 : Blk ((W9.setCell ⟨w5.heap.size, 5, none⟩ (.int .u32 l)).setCell ⟨w5.heap.size + 1, 5, none⟩ (.int .u32 g)) w5.heap.size 32 (spend A4 (S.length + 1) c4 ri4 k4 ro4 m4 l) := (hT8.set_ 5 (.int .u32 l)).far (p := ⟨w5.heap.size + 1, 5, none⟩) hn _
  have hX9 : Blk ((W9.setCell ⟨w5.heap.size, 5, none⟩ (.int .u32 l)).setCell ⟨w5.heap.size + 1, 5, none⟩ (.int .u32 g)) (w5.heap.size + 1) 32 (spend A5 (S.length + 1) c5 ri5 k5 ro5 m5 g) := (hT9.far (p := ⟨w5.heap.size, 5, none⟩) hn' _).set_ 5 (.int .u32 g)
  have HR5' := Lib.hid (HR5.out.below hb10)
  have HI5' := Lib.hid (HI5.out.below hb10 HI5.out.lt)
  have HO5' := Lib.hid (HO5.out.below hb10 HO5.out.lt)
  have HR4' := Lib.hid (HR45.out.below hb10)
  have HI4' := Lib.hid (HI45.out.below hb10 HI45.out.lt)
  have HO4' := Lib.hid (HO45.out.below hb10 HO45.out.lt)
  have HB10 := Lib.hid (Below.trans' HB5.out HB5.out.size (Below.lower hb10 HB5.out.size))
  have HX8 := Lib.hid hX8
  have HX9 := Lib.hid hX9
  clear HR5 HI5 HO5 HR45 HI45 HO45 HB5 hT8 hT9 hb9 hn98 hb10 hX8 hX9
  generalize hT9e : w5.heap.size + 1 = T9 at *
  generalize w5.heap.size = T8 at *
  go_wp2_with (refine wpList_load_row rfl 32 (.tmp 8) rfl T8 rfl 32 (spend A4 (S.length + 1) c4 ri4 k4 ro4 m4 l) (0, 0) _ HX8.out Tryz.underlying32 rfl info_spend ?_; refine Stop.mk ?_)
  refine Stop.go ?_
  generalize (W9.setCell ⟨T8, 5, none⟩ (.int .u32 l)).setCell ⟨T9, 5, none⟩ (.int .u32 g) = W10 at *
  clear c8 c9 f8 f9 hn hn'
  rw [hcode.out] at HR4' HR5'
  go_wp2_with fail
  refine (run_spend W10 A4 (S.length + 1) c4 ri4 k4 ro4 m4 l (numB q) hd.out hl2.out HR4'.out (by omega) HI4'.out HO4'.out).mono ?_
  rintro e w11 ⟨k, Ak, nk, ck, rfl, hk0, hk1, hkm, hb11⟩
  have HR11 := Lib.hid (HR5'.out.below hb11)
  have HI11 := Lib.hid (HI5'.out.below hb11 HI5'.out.lt)
  have HO11 := Lib.hid (HO5'.out.below hb11 HO5'.out.lt)
  have HX11 := Lib.hid (HX9.out.below hb11 HX9.out.lt)
  have HB11 := Lib.hid (Below.trans' HB10.out HB10.out.size (Below.lower hb11 HB10.out.size))
  have HK := Lib.hid hkm
  clear HR5' HI5' HO5' HX9 HX8 HB10 hb11 HR4' HI4' HO4' hk0 hk1 hkm
  go_wp2_with (refine wpList_load_row rfl 32 (.tmp 9) rfl T9 rfl 32 (spend A5 (S.length + 1) c5 ri5 k5 ro5 m5 g) (0, 0) _ HX11.out Tryz.underlying32 rfl info_spend ?_; refine Stop.mk ?_)
  refine Stop.go ?_
  go_wp2_with fail
  refine (run_spend w11 A5 (S.length + 1) c5 ri5 k5 ro5 m5 g (numB q) hd.out hg2.out HR11.out (by omega) HI11.out HO11.out).mono ?_
  rintro e w12 ⟨k', Ak', nk', ck', rfl, -, -, hkm', hb12⟩
  have HB12 := Lib.hid (Below.trans' HB11.out HB11.out.size (Below.lower hb12 HB11.out.size))
  have HK' := Lib.hid hkm'
  clear HR11 HI11 HO11 HX11 HB11 hb12 hkm' l8
  have htell := runs_tell hb1 hb2 HL.out HK.out HK'.out
  have hw : IntKind.i64.wrap (l : Int) = l := by
    have := hl2.out
    simp only [IntKind.wrap_i64]
    omega
  clear hb2 HK HK' HL HQ hq2 hl2 hg2
  generalize (q : Int) = qi at htell ⊢
  generalize (l : Int) = li at htell hb1 hw ⊢
  generalize (g : Int) = gi at *
  rcases htell with ⟨rfl, rfl, h1, h2⟩ | ⟨hk, h1 | ⟨h1, h2⟩⟩
  · go_wp2
    go_ret
    exact ⟨by simp, HB12.out⟩
  · have hk' : (k == 0) = false := by simpa using hk
    have hk2 : decide (k = 0) = false := decide_eq_false hk
    go_wp2
    go_ret
    exact ⟨by simp, HB12.out⟩
  · have hk' : (k == 0) = false := by simpa using hk
    have hk2 : decide (k = 0) = false := decide_eq_false hk
    cases b
    all_goals
      go_wp2
      go_ret
      exact ⟨by simp, HB12.out⟩

theorem law_neg (w : World) (a l g : Int) (h : a < 0) :
    Calls Tryz.prog 3 #[.int .i64 a, .int .u32 l, .int .u32 g] w fun e w' => e = .returned (.bool true) ∧ Below w.heap.size w w' := by
  go_enter Tryz.func3, Tryz.ntmps3
  go_wp2
  go_ret
  exact ⟨rfl, Below.refl _ _⟩
theorem law_big (w : World) (a l g : Int) (h0 : ¬ a < 0) (h : 549755813888 ≤ a) :
    Calls Tryz.prog 3 #[.int .i64 a, .int .u32 l, .int .u32 g] w fun e w' => e = .returned (.bool true) ∧ Below w.heap.size w w' := by
  go_enter Tryz.func3, Tryz.ntmps3
  go_wp2
  go_ret
  exact ⟨rfl, Below.refl _ _⟩
theorem law_less (w : World) (a l g : Int) (h0 : ¬ a < 0) (h1 : ¬ 549755813888 ≤ a) (h : g < l) :
    Calls Tryz.prog 3 #[.int .i64 a, .int .u32 l, .int .u32 g] w fun e w' => e = .returned (.bool true) ∧ Below w.heap.size w w' := by
  go_enter Tryz.func3, Tryz.ntmps3
  go_wp2
  go_ret
  exact ⟨rfl, Below.refl _ _⟩
theorem law_kinds (w : World) (a l g : Int) (b c : Bool) (h0 : ¬ a < 0) (h1 : ¬ 549755813888 ≤ a) (h2 : ¬ g < l) (hb : decide (l < 500000000) = b) (hc : decide (g < 500000000) = c) (hbc : (b != c) = true) :
    Calls Tryz.prog 3 #[.int .i64 a, .int .u32 l, .int .u32 g] w fun e w' => e = .returned (.bool true) ∧ Below w.heap.size w w' := by
  cases b <;> cases c <;> first | (exact absurd hbc (by decide)) | skip
  all_goals clear hbc
  all_goals
    go_enter Tryz.func3, Tryz.ntmps3
    go_wp2
    go_ret
    exact ⟨rfl, Below.refl _ _⟩

theorem wf_u32 {n : Int} (h : (Lit.int .u32 n).wf = true) : 0 ≤ n ∧ n < 4294967296 := by
  have e1 : IntKind.u32.min = 0 := rfl
  have e2 : IntKind.u32.max = 4294967295 := rfl
  simp [Lit.wf, e1, e2] at h
  omega

/-- For every input the law returns true. -/
theorem law_walk_all (w : World) (asked lock greater : Int) (wa : (Lit.int .i64 asked).wf = true) (wl : (Lit.int .u32 lock).wf = true) (wg : (Lit.int .u32 greater).wf = true) :
    Calls Tryz.prog 3 #[.int .i64 asked, .int .u32 lock, .int .u32 greater] w fun e w' => e = .returned (.bool true) ∧ Below w.heap.size w w' := by
  obtain ⟨l0, l1⟩ := wf_u32 wl
  obtain ⟨g0, g1⟩ := wf_u32 wg
  by_cases h0 : asked < 0
  · exact law_neg w asked lock greater h0
  by_cases h1 : 549755813888 ≤ asked
  · exact law_big w asked lock greater h0 h1
  by_cases h2 : greater < lock
  · exact law_less w asked lock greater h0 h1 h2
  by_cases h3 : decide (lock < 500000000) = decide (greater < 500000000)
  · obtain ⟨q, rfl⟩ := Int.eq_ofNat_of_zero_le (show 0 ≤ asked by omega)
    obtain ⟨l, rfl⟩ := Int.eq_ofNat_of_zero_le l0
    obtain ⟨g, rfl⟩ := Int.eq_ofNat_of_zero_le g0
    exact law_main w q l g _ (by omega) (by omega) (by omega) (by omega) h3 rfl
  · exact law_kinds w asked lock greater _ _ h0 h1 h2 rfl rfl (by simpa using h3)
end Go.Proofs.YtfjnhnfghhaehaaGreatDoor
