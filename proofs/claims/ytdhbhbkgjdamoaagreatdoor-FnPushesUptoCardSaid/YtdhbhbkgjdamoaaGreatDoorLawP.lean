/- The walk of FnPushes. -/
import Derived.Test.YtdhbhbkgjdamoaaGreatDoorOverRun
import Derived.Test.YtdhbhbkgjdamoaaGreatDoorTx
import Derived.Test.YtdhbhbkgjdamoaaGreatDoorAlone
import Derived.Test.YtdhbhbkgjdamoaaGreatDoorPushSpec
import Derived.Test.YtdhbhbkgjdamoaaGreatDoorMeas
import Derived.Test.YtdhbhbkgjdamoaaGreatDoorSaidP
namespace Go.Proofs.YtdhbhbkgjdamoaaGreatDoor
open Go.RowKit Go.Proofs

set_option maxRecDepth 100000

theorem code_snoc (ts : List Tok) (t : Tok) : code (ts ++ [t]) = code ts ++ t.enc := by
  rw [code_append]
  simp [code]

theorem rd_own {w : World} {base n c : Nat} {e : TypeId} {A : Option Addr} {bs : List UInt8} (h : w.ownsRow base e 1 (.slice A n c) n (bv bs)) (he : e ∉ Sx) : Rd 0 w (.slice A n c) bs := by
  have hl : n = bs.length := by have := h.1; simp [bv_length] at this; exact this.symm
  subst hl
  exact Rd.of_own h he

/-- What over comes to. -/
def LeftPost (w : World) (xss : List (List UInt8)) (e : Ending) (w' : World) : Prop :=
  ∃ (A : Option Addr) (c : Nat) (vs : List Value), e = .returned (.tuple #[.int .i64 0, .slice A xss.length c]) ∧ Cells w' A xss.length vs ∧ RdL 0 w' vs xss ∧ Below w.heap.size w w'

theorem over_law (w : World) (B0 : Nat) (A As : Option Addr) (n c cs : Nat) (vs : List Value) (xss ds : List (List UInt8)) (es : List UInt8) (hc : Cells w A n vs) (hr : RdL B0 w vs xss) (hxs : ∀ xs ∈ xss, xs.length ≤ 520) (hds : ∀ d ∈ ds, d.length ≤ 520) (hx : xss.length ≤ 300) (hd : ds.length ≤ 300)
    (hes : es = code (ds.map pushT)) (hrd : Rd 0 w (.slice As es.length cs) es) (hl : es.length ≤ 9000) :
    Calls Tryz.prog 7 #[.slice A n c, .slice As es.length cs, .int .u32 256] w (LeftPost w (xss ++ ds)) := by
  have HC := Lib.hid hc
  have HR := Lib.hid hr
  have HX := Lib.hid (show ∀ xs ∈ xss, xs.length ≤ 1000000 from fun xs h => by have := hxs xs h; omega)
  have HD := Lib.hid hds
  have HES := Lib.hid hes
  have HRD := Lib.hid hrd
  have HTS : Hid (∀ t ∈ ds.map pushT ++ [⟨81, []⟩], TokS t) := fun t h => by
    rw [List.mem_append, List.mem_singleton] at h
    rcases h with h | rfl
    · obtain ⟨d, hd, rfl⟩ := List.mem_map.1 h
      have := hds d hd
      exact tokS_pushT d (by omega)
    · exact .inl ⟨rfl, .inr (show 78 < 81 by omega), (show 81 ≤ 255 by omega), _, op81⟩
  have hcode : code (ds.map pushT ++ [⟨81, []⟩]) = code (ds.map pushT) ++ [81] := code_snoc _ _
  clear hc hr hxs hds hes hrd
  go_enter Tryz.func7, Tryz.ntmps7
  go_wp2_with fail
  refine (alone_rule w 256 256 (by kernel_rfl) As es.length cs es HRD.out (by omega)).mono ?_
  rintro e w1 ⟨A1, k1, ri, ro, q1, q2, rfl, ho1, hri, hro, hb1⟩
  have hrd1 : Rd 0 w1 (.slice A1 (es.length + 1) k1) (code (ds.map pushT ++ [⟨81, []⟩])) := by
    rw [hcode, ← HES.out]
    exact rd_own ho1 (by decide)
  have hbz : ∀ o, Below w1.heap.size w1 (w1.alloc o) := fun o => (Below.refl _ _).alloc (Nat.le_refl _) o
  have hE := engine_push inCells.toArray tx_said (w1.alloc (.cells #[.slice A1 (es.length + 1) k1, .int .i64 0, .int .i32 2, .slice (some ⟨ri, 0, none⟩) 1 q1, .slice (some ⟨ro, 0, none⟩) 1 q2, .int .u32 100, .int .i64 0, .int .u32 256] 40)) A1 (es.length + 1) k1 ri ro q1 q2 100 (ds.map pushT ++ [⟨81, []⟩]) HTS.out (by rw [hcode]; simp) (hrd1.below (hbz _)) (by omega)
    (hri.below (hbz _) hri.lt) (hro.below (hbz _) hro.lt)
  rw [hcode] at hE
  have HO := Lib.hid (over_push w1 B0 ds xss A n c vs HD.out (HC.out.below hb1) (HR.out.below hb1) HX.out (by omega) _ _ _ _ _ _ _ _ (by intro v hv; simp at hv; rcases hv with rfl | rfl | rfl | rfl | rfl | rfl | rfl | rfl <;> rfl) hE)
  have HB1 := Lib.hid hb1
  clear hE ho1 hri hro hb1 hrd1 hbz
  go_wp2_with fail
  refine HO.out.mono ?_
  rintro e w2 ⟨A2, k2, A3, k3, vs2, rfl, hc2, hr2, hb2⟩
  have HB2 := Lib.hid (Below.trans' HB1.out HB1.out.size (Below.lower hb2 HB1.out.size))
  have HC2 := Lib.hid hc2
  have HR2 := Lib.hid hr2
  clear hc2 hr2 hb2 HO
  go_wp2
  go_ret2
  exact ⟨A2, k2, vs2, by rw [List.length_append]; rfl, HC2.out, HR2.out, HB2.out⟩

/-- The loop's relation. -/
def ScRel (w : World) (n : Nat) (xss : List (List UInt8)) (k : Nat) (s3 s4 : Value) (wx : World) : Prop :=
  ∃ (i : Nat) (A : Option Addr) (c : Nat) (es : List UInt8), k = n - i + 1 ∧ i ≤ n ∧ s3 = .slice A es.length c ∧ s4 = .int .i64 i ∧ wx.ownsRow w.heap.size 5 1 (.slice A es.length c) es.length (bv es) ∧ es.length ≤ szs (xss.take i) + 5 * i ∧
    ((∀ d ∈ xss.take i, d.length ≤ 520) → es = code ((xss.take i).map pushT)) ∧ Below w.heap.size w wx

theorem wpList_append_wanted {P : Program} (w : World) {ops : Array Oper} {rest : List Oper} {o : Oper} {a : Act} {Q : Exit → Act → World → Prop} (hgd : Region.wanted o (yielded ops a.tmps) = true) (s x : Operand) (t : TypeId)
    (ho : o.op = .call { callee := .builtin .append, args := #[s, x], argTypes := #[t, t] })
    (base : Nat) (e : TypeId) (i : TypeInfo) (z : Value) (bytes : Nat) (ht : P.underlying t = some (.slice e)) (hi : P.info? e = some i) (hz : i.zero = some z)
    (hsize : i.size = 1) (hby : i.bytes = bytes) (hzs : z.cells.size = 1)
    (v : Value) (n : Nat) (xs : List Value) (hs : a.eval s = v) (hown : w.ownsRow base e 1 v n xs)
    (A : Option Addr) (m c : Nat) (news : List Value) (hx : a.eval x = .slice A m c) (hr : Cells w A m news) (h1 : ∀ u ∈ news, u.oneCell' = true)
    (hbytes : (n + m) * bytes ≤ 140737488355328) (hpos : 0 < bytes) (hbase : base ≤ w.heap.size)
    (h : ∀ v' w', w'.ownsRow base e 1 v' (n + m) (xs ++ news) → w.grownBy w' v.ownBlock → (v'.ownBlock = v.ownBlock ∨ v'.ownBlock = some w.heap.size) → wpList P ops Q rest (a.put o.dst v') w') : wpList P ops Q (o :: rest) a w :=
  wpList_step fun _ hK => by
    rw [if_pos hgd]
    exact wp_append_cells w s x t ho base e i z bytes ht hi hz hsize hby hzs v n xs hs hown A m c news hx hr h1 hbytes hpos hbase fun v' w' h2 h3 h4 => hK _ _ (h v' w' h2 h3 h4)

theorem rd_new1 (w : World) : Rd 0 (w.alloc (.cells #[.int .u8 1] 5)) (.slice (some ⟨w.heap.size, 0, none⟩) 1 1) [1] := by
  refine ⟨some ⟨w.heap.size, 0, none⟩, 1, rfl, Nat.le_refl _, fun _ => ⟨w.heap.size, 0, _, _, _, rfl, heap_alloc_new w _, .inr (by decide), fun j u hj => ?_⟩⟩
  match j, hj with
  | 0, hj =>
    simp at hj
    subst hj
    rfl

theorem RdL.one {B : Nat} {w : World} {vs : List Value} {xss : List (List UInt8)} (h : RdL B w vs xss) : ∀ u ∈ vs, u.oneCell' = true := by
  intro u hu
  obtain ⟨i, hi⟩ := List.mem_iff_getElem?.1 hu
  have hlt := (List.getElem?_eq_some_iff.1 hi).1
  obtain ⟨A, c, rfl, -⟩ := (h.2 i u (xss[i]'(by rw [← h.1]; exact hlt)) hi (List.getElem?_eq_getElem _)).slice
  rfl
theorem RdL.append {B : Nat} {w : World} {vs vs' : List Value} {xss xss' : List (List UInt8)} (h : RdL B w vs xss) (h' : RdL B w vs' xss') : RdL B w (vs ++ vs') (xss ++ xss') := by
  refine ⟨by simp [h.1, h'.1], fun i v xs h1 h2 => ?_⟩
  by_cases hl : i < vs.length
  · rw [List.getElem?_append_left hl] at h1
    rw [List.getElem?_append_left (by rw [← h.1]; exact hl)] at h2
    exact h.2 i v xs h1 h2
  · rw [List.getElem?_append_right (by omega)] at h1
    rw [List.getElem?_append_right (by rw [← h.1]; omega), ← h.1] at h2
    exact h'.2 _ v xs h1 h2
theorem RdL.mono {B B' : Nat} {w : World} {vs : List Value} {xss : List (List UInt8)} (h : RdL B w vs xss) (hB : B ≤ B') : RdL B' w vs xss := by
  refine ⟨h.1, fun i v xs h1 h2 => ?_⟩
  obtain ⟨A, c, rfl, hc, hp⟩ := h.2 i v xs h1 h2
  refine ⟨A, c, rfl, hc, fun h0 => ?_⟩
  obtain ⟨b, o, ds, t, fr, e1, e2, e3, e4⟩ := hp h0
  exact ⟨b, o, ds, t, fr, e1, e2, e3.imp (fun h => by omega) id, e4⟩

set_option maxHeartbeats 4000000 in
theorem law_walk_p : LawSaid := by
  intro w A1 A2 n1 c1 n2 c2 vs1 vs2 xss1 xss2 hc1 hr1 hc2 hr2 hs
  have hl1 : xss1.length = n1 := by rw [← hr1.1, hc1.1]
  have hl2 : xss2.length = n2 := by rw [← hr2.1, hc2.1]
  obtain ⟨i0, hi, hz0, hz1, hz2⟩ := info_parts info_u8
  have hnb : (n2 : Int) ≤ 1048576 := by omega
  have HC1 := Lib.hid hc1
  have HR1 := Lib.hid hr1
  have HC2 := Lib.hid hc2
  have HR2 := Lib.hid hr2
  have HS := Lib.hid hs
  have HF1 := Lib.hid (fits5_any w _ A1 n1 c1 vs1 xss1 hc1 hr1 (by omega))
  have HF2 := Lib.hid (fits5_any w _ A2 n2 c2 vs2 xss2 hc2 hr2 (by omega))
  clear hc1 hr1 hc2 hr2 hs
  go_enter Tryz.func3, Tryz.ntmps3
  go_wp2_with fail
  refine HF1.out.mono ?_
  rintro e w1 ⟨rfl, rfl⟩
  go_wp2_with fail
  refine HF2.out.mono ?_
  rintro e w1 ⟨rfl, rfl⟩
  go_wp2_with fail
  clear HF1 HF2
  go_loopg [5, 6] (n2 + 1) (fun k s3 s4 wx => ScRel w n2 xss2 k s3 s4 wx)
  case atStart => exact ⟨0, none, 0, [], by simp, Nat.zero_le _, rfl, rfl, ⟨rfl, .inl ⟨rfl, rfl⟩⟩, by simp, fun _ => rfl, Below.refl _ _⟩
  case round =>
    obtain ⟨i, A, c, es, rfl, hin, rfl, rfl, hown, hel, hes, hbel⟩ := hrel
    have HO := Lib.hid hown
    have HES := Lib.hid hes
    have HB := Lib.hid hbel
    clear hown hes hbel
    have hst := szs_take xss2 i
    have hes0 : es.length ≤ 10000000 := by have := HS.out; omega
    by_cases h0 : i = n2
    · subst h0
      have ht : xss2.take i = xss2 := List.take_of_length_le (by omega)
      have hd : decide ((i : Int) < i) = false := by simp
      have HG1 := Lib.hid (light_any wr _ A1 n1 c1 vs1 xss1 (HC1.out.below HB.out) (HR1.out.below HB.out) (by have := HS.out; omega))
      have HG2 := Lib.hid (light_any wr _ A2 i c2 vs2 xss2 (HC2.out.below HB.out) (HR2.out.below HB.out) (by have := HS.out; omega))
      have HRD := Lib.hid (rd_own (n := es.length) (c := c) (A := A) (bs := es) HO.out (by decide))
      have HES2 : Hid ((∀ d ∈ xss2, d.length ≤ 520) → es = code (xss2.map pushT)) := by rw [← ht]; exact HES.out
      clear hel hst ht HES
      go_wp2_with fail
      refine HG1.out.mono ?_
      rintro e w1 ⟨b1, rfl, hb1, rfl⟩
      cases b1
      · clear hb1
        go_wp2
        go_ret
        exact ⟨rfl, HB.out⟩
      obtain ⟨hx1, hn1⟩ := hb1 rfl
      have HX1 := Lib.hid hx1
      clear hb1 hx1
      go_wp2_with fail
      refine HG2.out.mono ?_
      rintro e w1 ⟨b2, rfl, hb2, rfl⟩
      cases b2
      · clear hb2
        go_wp2
        go_ret
        exact ⟨rfl, HB.out⟩
      obtain ⟨hx2, hn2⟩ := hb2 rfl
      have HX2 := Lib.hid hx2
      clear hb2 hx2
      by_cases h9 : 9000 < (es.length : Int)
      · go_wp2
        go_ret
        exact ⟨rfl, HB.out⟩
      have HV := Lib.hid (over_law wr _ A1 A n1 c1 c vs1 xss1 xss2 es (HC1.out.below HB.out) (HR1.out.below HB.out) HX1.out HX2.out hn1 hn2 (HES2.out HX2.out) HRD.out (by omega))
      clear HG1 HG2 HRD HES2 HO hes0
      go_wp2_with fail
      refine HV.out.mono ?_
      rintro e w2 ⟨AL, cL, vsL, rfl, hcL, hrL, hb2⟩
      have hN : (xss1 ++ xss2).length = n1 + i := by simp [hl1, hl2]
      rw [hN] at hcL ⊢
      have HCL := Lib.hid hcL
      have HRL := Lib.hid hrL
      have HB2 := Lib.hid (Below.trans' HB.out HB.out.size (Below.lower hb2 HB.out.size))
      clear hcL hrL hb2 HV HB h9 hi hz0 hz1 hz2
      obtain ⟨j0, hj, hy0, hy1, hy2⟩ := info_parts info_rows
      go_wp2_with (at_builtin; refine Stop.mk ?_)
      refine Stop.go ?_
      have hO0 := World.ownsRow_made (base := w2.heap.size) (e := 24) (size := 1) w2 #[] 0 (Nat.le_refl _) (by simp [maxLen]) rfl
      have hs2 := HB2.out.size
      have hK0 : Below w2.heap.size w2 (w2.alloc (.cells #[] 24)) := (Below.refl _ _).alloc (Nat.le_refl _) _
      refine wpList_append_cells _ rfl (.tmp 50) (.tmp 51) 22 rfl w2.heap.size 24 j0 _ 24 Tryz.underlying22 hj hy0 hy1 hy2 rfl (.slice (some ⟨w2.heap.size, 0, none⟩) 0 0) 0 [] rfl hO0 A1 n1 c1 vs1 rfl ((HC1.out.below HB2.out).below hK0) HR1.out.one (by omega) (by omega) (by simp) ?_
      intro v3 W3 hO3 hg3 hat3
      have hK3 : Below w2.heap.size w2 W3 := hK0.grown hg3 (by simp) (fun k hk => (hO0.lt k hk).1)
      simp only [Nat.zero_add, List.nil_append] at hO3
      clear hO0 hg3 hat3
      go_wp2_with (at_builtin; refine Stop.mk ?_)
      refine Stop.go ?_
      refine wpList_append_cells _ rfl (.tmp 52) (.tmp 53) 22 rfl w2.heap.size 24 j0 _ 24 Tryz.underlying22 hj hy0 hy1 hy2 rfl v3 n1 vs1 rfl hO3 A2 i c2 vs2 rfl ((HC2.out.below HB2.out).below hK3) HR2.out.one (by omega) (by omega) hK3.size ?_
      intro v4 W4 hO4 hg4 hat4
      have hK4 : Below w2.heap.size w2 W4 := hK3.grown hg4 hK3.size (fun k hk => (hO3.lt k hk).1)
      clear hO3 hg4 hat4 hK3 hK0
      have HO4 := Lib.hid hO4
      have HK4 := Lib.hid hK4
      clear hO4 hK4
      go_wp2_with (at_builtin; refine Stop.mk ?_)
      refine Stop.go ?_
      have hK6 : Below W4.heap.size W4 ((W4.alloc (.cells #[.int .u8 1] 5)).alloc (.cells #[.slice (some ⟨W4.heap.size, 0, none⟩) 1 1] 24)) := ((Below.refl _ _).alloc (Nat.le_refl _) _).alloc (by simp) _
      have hK6' := HK4.out.trans (hK6.mono HK4.out.size)
      have hR6 : RdL 0 ((W4.alloc (.cells #[.int .u8 1] 5)).alloc (.cells #[.slice (some ⟨W4.heap.size, 0, none⟩) 1 1] 24)) [.slice (some ⟨W4.heap.size, 0, none⟩) 1 1] [[1]] :=
        RdL.below (RdL.snoc RdL.nil (rd_new1 W4)) ((Below.refl _ _).alloc (Nat.le_refl _) _)
      have hc6 := Cells.one (W4.alloc (.cells #[.int .u8 1] 5)) (.slice (some ⟨W4.heap.size, 0, none⟩) 1 1) 24
      have hsz6 : (W4.alloc (.cells #[.int .u8 1] 5)).heap.size = W4.heap.size + 1 := by simp
      rw [hsz6] at hc6
      have hO6 := own_below HO4.out hK6
      generalize (W4.alloc (.cells #[.int .u8 1] 5)).alloc (.cells #[.slice (some ⟨W4.heap.size, 0, none⟩) 1 1] 24) = W6 at *
      refine wpList_append_wanted _ (by first | rfl | kernel_rfl | simp [Region.wanted]) (.tmp 59) (.tmp 61) 22 rfl w2.heap.size 24 j0 _ 24 Tryz.underlying22 hj hy0 hy1 hy2 rfl v4 (n1 + i) (vs1 ++ vs2) rfl hO6 (some ⟨W4.heap.size + 1, 0, none⟩) 1 1 [.slice (some ⟨W4.heap.size, 0, none⟩) 1 1] rfl hc6 (by intro u hu; simp at hu; subst hu; rfl) (by omega) (by omega) hK6'.size ?_
      intro v7 W7 hO7 hg7 hat7
      have hK7 : Below w2.heap.size w2 W7 := hK6'.grown hg7 hK6'.size (fun k hk => (hO6.lt k hk).1)
      have hR7 := rdl_grown hR6 hO6 hg7
      obtain ⟨A7, c7, rfl⟩ := own_form hO7
      have hcap : n1 + i + 1 ≤ c7 := by
        rcases hO7.2 with ⟨e1, e2⟩ | ⟨g7, cap7, cur7, e1, _, _, hnc, _⟩
        · injection e1 with _ e3 _
          omega
        · injection e1 with _ _ e3
          omega
      have hKw : Below w.heap.size w W7 := Below.trans' HB2.out HB2.out.size (Below.lower hK7 HB2.out.size)
      have HFT := Lib.hid (fits_top W7 0 w.heap.size AL A7 (n1 + i) cL c7 vsL (vs1 ++ vs2 ++ [.slice (some ⟨W4.heap.size, 0, none⟩) 1 1]) (xss1 ++ xss2) [1] (HCL.out.below hK7) (HRL.out.below hK7) (Cells.of_own hO7) (((HR1.out.below hKw).append (HR2.out.below hKw)).append (hR7.mono (Nat.zero_le _))) hcap (fun xs h => by
        rw [List.mem_append] at h
        rcases h with h | h
        · have := HX1.out xs h
          omega
        · have := HX2.out xs h
          omega) (by omega))
      have HKW := Lib.hid hKw
      clear hO7 hg7 hat7 hK7 hR7 hcap hKw hO6 hc6 hR6 hK6 hK6' hsz6 HO4 HK4
      go_wp2_with fail
      refine HFT.out.mono ?_
      rintro e w8 ⟨rfl, hb8⟩
      have HB8 := Lib.hid (Below.trans' HKW.out HKW.out.size (Below.lower hb8 HKW.out.size))
      clear hb8
      go_wp2
      go_ret
      exact ⟨rfl, HB8.out⟩
    · have h1 : (i : Int) < (n2 : Int) := by omega
      have h2 : (0 : Int) ≤ (i : Int) := by omega
      obtain ⟨b, o, rfl, hcells⟩ := HC2.out.2 (by omega)
      obtain ⟨v, hv⟩ : ∃ v, vs2[i]? = some v := ⟨vs2[i]'(by rw [HC2.out.1]; omega), List.getElem?_eq_getElem _⟩
      obtain ⟨xs, hxs⟩ : ∃ xs, xss2[i]? = some xs := ⟨xss2[i]'(by omega), List.getElem?_eq_getElem _⟩
      have hcl := cell_keep HB.out (hcells i v hv)
      have hvr : Rd w.heap.size wr v xs := (HR2.out.2 i v xs hv hxs).below HB.out
      obtain ⟨Av, cv, rfl, -⟩ := hvr.slice
      have hsucc := szs_take_succ hxs
      have hxl : xs.length ≤ 1048576 := by
        have := szs_mem (List.mem_of_getElem? hxs)
        have := HS.out
        omega
      have HP := Lib.hid (spush_any wr w.heap.size Av cv xs (by omega) hvr)
      have HXS := Lib.hid hxs
      clear hcells hv hvr hxs
      go_wp2_with fail
      refine HP.out.mono ?_
      rintro e w1 ⟨A', c', es', rfl, ho1, hle1, heq1, hb1⟩
      have HB1 := Lib.hid (Below.trans' HB.out HB.out.size (Below.lower hb1 HB.out.size))
      have HO1 := Lib.hid (own_below HO.out hb1)
      have HC' := Lib.hid (Cells.of_own ho1)
      have HEQ := Lib.hid heq1
      clear ho1 heq1 hb1 HP HO
      go_wp2_with (at_builtin; refine Stop.mk ?_)
      refine Stop.go ?_
      refine wpList_append_cells _ rfl (.tmp 24) (.tmp 29) 24 rfl w.heap.size 5 i0 _ 1 Tryz.underlying24 hi hz0 hz1 hz2 rfl (.slice A es.length c) es.length (bv es) rfl HO1.out A' es'.length c' (bv es') rfl HC'.out (by intro u hu; simp [bv] at hu; obtain ⟨x, -, rfl⟩ := hu; rfl) (by omega) (by omega) HB1.out.size ?_
      intro v' w2 hown' hgrow hat
      rw [← bv_append, ← List.length_append] at hown'
      obtain ⟨A3, c3, rfl⟩ := own_form hown'
      have HB2 := Lib.hid (HB1.out.grown hgrow HB1.out.size (fun k hk => (HO1.out.lt k hk).1))
      have HO2 := Lib.hid hown'
      clear hown' hgrow hat HO1 HC' HB1 HB
      go_wp2_with fail
      have hw1 : (i : Int) + 1 = ((i + 1 : Nat) : Int) := by omega
      go_roundg (n2 - (i + 1) + 1)
      case measure => omega
      case rel =>
        have ht : xss2.take (i + 1) = xss2.take i ++ [xs] := by rw [List.take_add_one, HXS.out]; rfl
        refine ⟨i + 1, A3, c3, es ++ es', rfl, by omega, by rw [List.length_append], by rw [← hw1], HO2.out, by rw [List.length_append]; omega, fun hall => ?_, HB2.out⟩
        rw [ht] at hall ⊢
        have h3 := hall xs (by simp)
        rw [List.map_append, List.map_cons, List.map_nil, code_snoc, ← HES.out (fun d hd => hall d (List.mem_append_left _ hd)), HEQ.out (by omega)]
end Go.Proofs.YtdhbhbkgjdamoaaGreatDoor
