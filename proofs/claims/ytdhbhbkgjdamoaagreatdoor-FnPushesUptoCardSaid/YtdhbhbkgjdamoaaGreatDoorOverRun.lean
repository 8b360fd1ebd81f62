/- Over, run to its end. -/
import Derived.Test.YtdhbhbkgjdamoaaGreatDoorOver
import Derived.OwnWalk
namespace Go.Proofs.YtdhbhbkgjdamoaaGreatDoor
open Go.RowKit Go.Proofs

set_option maxRecDepth 100000

/-- What Over comes to. -/
def OverPost (w : World) (xss : List (List UInt8)) (e : Ending) (w' : World) : Prop :=
  ∃ (A : Option Addr) (c : Nat) (A2 : Option Addr) (c2 : Nat) (vs : List Value), e = .returned (.tuple #[.int .i64 0, .slice A xss.length c, .slice A2 0 c2]) ∧ Cells w' A xss.length vs ∧ RdL 0 w' vs xss ∧ Below w.heap.size w w'

set_option maxHeartbeats 2000000 in
theorem over_push (w : World) (B0 : Nat) (ds xss : List (List UInt8)) (A : Option Addr) (n c : Nat) (vs : List Value) (hds : ∀ d ∈ ds, d.length ≤ 520) (hc : Cells w A n vs) (hr : RdL B0 w vs xss) (hxs : ∀ xs ∈ xss, xs.length ≤ 1000000) (hx : xss.length + ds.length < 1000)
    (c0 c1 c2 c3 c4 c5 c6 c7 : Value) (hone : ∀ v ∈ [c0, c1, c2, c3, c4, c5, c6, c7], v.oneCell' = true)
    (hE : Calls Tryz.prog 13 #[.agg #[c0, c1, c2, c3, c4, c5, c6, c7]] (w.alloc (.cells #[c0, c1, c2, c3, c4, c5, c6, c7] 40)) (EngP (w.alloc (.cells #[c0, c1, c2, c3, c4, c5, c6, c7] 40)) (code (ds.map pushT) ++ [81]) true 256)) :
    Calls Tryz.prog 10 #[.agg #[c0, c1, c2, c3, c4, c5, c6, c7], .slice A n c, .slice none 0 0] w (OverPost w (xss ++ ds)) := by
  have hn : n = xss.length := by rw [← hr.1, hc.1]
  subst hn
  have HE := Lib.hid hE
  have HC := Lib.hid hc
  have HR := Lib.hid hr
  have HX := Lib.hid hxs
  have HD := Lib.hid hds
  clear hE hc hr hxs hds
  have hxn : xss.length < 1000 := by omega
  go_enter Tryz.func10, Tryz.ntmps10
  go_wp2_with fail
  refine HE.out.mono ?_
  rintro e w1 ⟨g, B, sb, pb, po, n, c', cs, rfl, hv, he, hn, hrd, h0, h24, h25, h33, hb, hg, hB, h23⟩
  have hb0 : Below w.heap.size w w1 := Below.trans' ((Below.refl _ _).alloc (Nat.le_refl _) _) (by simp) (Below.lower hb (by simp))
  have HB := Lib.hid hb0
  have HV := Lib.hid hv
  have HEN := Lib.hid he
  have HRD := Lib.hid hrd
  have hgw : w.heap.size ≤ g := Nat.le_trans (by simp) hg
  have hgl := hv.blk.lt
  have H0 := Lib.hid h0
  have H24 := Lib.hid h24
  have H33 := Lib.hid h33
  have H23 := Lib.hid h23
  have HN := Lib.hid hn
  clear hv he hrd h0 h24 h25 h33 hb hg hB h23 hb0 hn
  go_wp2_with fail
  refine (copies_any w1 B0 A xss.length c vs xss (HC.out.below HB.out) (HR.out.below HB.out) (by omega) HX.out).mono ?_
  rintro e w2 ⟨A2, k2, vs2, rfl, ho2, hr2, hb2⟩
  have hs2 := hb2.size
  have hgl2 : g < w2.heap.size := by omega
  have HV2 := Lib.hid ((HV.out.below hb2).rebase H23.out)
  have HRD2 := Lib.hid (HRD.out.below hb2)
  have HB2 := Lib.hid (Below.trans' HB.out HB.out.size (Below.lower hb2 HB.out.size))
  have HS2 := Lib.hid (set_g w2 g _ _ hgl2 (fun e w' h => h.1) (setStack_vm w2 g _ cs A2 xss.length k2 vs2 xss HV2.out H23.out (Cells.of_own ho2) hr2 (fun b o hA hp => by
    subst hA
    have h3 := ho2.lt b rfl
    exact ⟨h3.2, by omega⟩) (by omega)))
  clear hb2 ho2 hr2
  go_wp2_with fail
  refine HS2.out.mono ?_
  rintro e w3 ⟨rfl, cs3, hv3, hk3, hf3⟩
  have hgl3 := hv3.blk.lt
  have HV3 := Lib.hid hv3
  have HK3 := Lib.hid hk3
  have HRD3 := Lib.hid (hf3.rd HV2.out.blk HRD2.out)
  have HB3 := Lib.hid (Below.trans' HB2.out HB2.out.size (hf3.toBelow HB2.out.size hgw HB2.out.size))
  clear hv3 hk3 hf3 HS2 HV2 HB2 HRD2 hgl2
  go_wp2_with fail
  refine (copies_any w3 0 none 0 0 [] [] ⟨rfl, fun h => absurd h (by omega)⟩ RdL.nil (by omega) (fun _ h => by simp at h)).mono ?_
  rintro e w4 ⟨A4, k4, vs4, rfl, -, -, hb4⟩
  have HV4 := Lib.hid (HV3.out.below hb4)
  have HRD4 := Lib.hid (HRD3.out.below hb4)
  have HB4 := Lib.hid (Below.trans' HB3.out HB3.out.size (Below.lower hb4 HB3.out.size))
  have hgl4 := HV4.out.blk.lt
  have he3 := HEN.out.k23 HK3.out
  have HS4 := Lib.hid (setAlt_g w4 g _ _ hgl4 (fun e w' h => h.1) (setStack_nil w4 g 25 A4 k4 ((HV4.out.blk.cell 25).trans he3.c25)))
  have HE3 := Lib.hid he3
  clear hb4 HV3 HRD3 HB3 he3
  go_wp2_with fail
  refine HS4.out.mono ?_
  rintro e w5 ⟨rfl, hb5⟩
  have HV5 := Lib.hid (HV4.out.below hb5)
  have HRD5 := Lib.hid (HRD4.out.below hb5)
  have HB5 := Lib.hid (Below.trans' HB4.out HB4.out.size (Below.lower hb5 HB4.out.size))
  have hgl5 := HV5.out.blk.lt
  have HX5 := Lib.hid (execute_push true _ 256 (by kernel_rfl) ds HN.out HV5.out HE3.out ((HK3.out 0 (by omega)).trans H0.out) ((HK3.out 24 (by omega)).trans H24.out) ((HK3.out 33 (by omega)).trans H33.out) HRD5.out rfl HD.out hx)
  clear hb5 HV4 HRD4 HB4 HS4
  go_wp2_with fail
  refine HX5.out.mono ?_
  rintro e w6 ⟨rfl, hf6, cs6, hv6, hk6⟩
  have HB6 := Lib.hid (Below.trans' HB5.out HB5.out.size (hf6.toBelow HB5.out.size hgw (Nat.le_trans HB.out.size hs2)))
  have hgl6 := hv6.blk.lt
  obtain ⟨A6, k6, it6, h236, ho6, hr6⟩ := hv6.stk
  have h256 : cs6[25]? = some (.slice none 0 0) := (hk6 25 (by omega)).trans HE3.out.c25
  obtain ⟨N, hN⟩ : ∃ N, (xss ++ ds).length = N := ⟨_, rfl⟩
  have hNl : N ≤ 1000 := by rw [← hN, List.length_append]; omega
  have hq := getStack_any w6 g _ 23 cs6 (xss ++ ds) it6 A6 k6 hv6.blk h236 ho6 hr6 (by rw [hN]; omega)
  rw [hN] at hq
  have HG6 := Lib.hid (getStack_g w6 g _ hgl6 (fun e w' h => by obtain ⟨T, rfl, -⟩ := h; exact ⟨_, _, _, rfl⟩) hq)
  have HN6 := Lib.hid hN
  clear hq hN
  have HV6 := Lib.hid hv6.blk
  have H256 := Lib.hid h256
  have HXD : Hid (∀ xs ∈ xss ++ ds, xs.length ≤ 1000000) := fun xs h => by
    rw [List.mem_append] at h
    rcases h with h | h
    · exact HX.out xs h
    · have := HD.out xs h
      omega
  clear hv6 hf6 hk6 h236 ho6 hr6 h256 HX5 HV5 HRD5 HB5
  go_wp2_with fail
  refine (kind_nil w6).mono ?_
  rintro e w3' ⟨rfl, rfl⟩
  go_wp2_with fail
  refine HG6.out.mono ?_
  rintro e w7 ⟨T7, rfl, hc7, hr7, hb7⟩
  have HB7 := Lib.hid (Below.trans' HB6.out HB6.out.size (Below.lower hb7 HB6.out.size))
  have HV7 := Lib.hid (HV6.out.below hb7 HV6.out.lt)
  have HC7 := Lib.hid (copies_any w7 0 _ N N it6 (xss ++ ds) hc7 hr7 (by omega) HXD.out)
  clear hb7 hc7 hr7 HG6
  have hgl7 := HV7.out.lt
  go_wp2_with fail
  refine HC7.out.mono ?_
  rintro e w8 ⟨A8, k8, vs8, rfl, ho8, hr8, hb8⟩
  have HB8 := Lib.hid (Below.trans' HB7.out HB7.out.size (Below.lower hb8 HB7.out.size))
  have HV8 := Lib.hid (HV7.out.below hb8 HV7.out.lt)
  have HC8 := Lib.hid (Cells.of_own ho8)
  have HR8 := Lib.hid hr8
  have hgl8 := HV8.out.lt
  have HG8 := Lib.hid (getAlt_g w8 g _ hgl8 (fun e w' h => by obtain ⟨T, rfl, -⟩ := h; exact ⟨_, _, _, rfl⟩) (getStack_any w8 g 0 25 cs6 [] [] none 0 HV8.out H256.out ⟨rfl, .inl ⟨rfl, rfl⟩⟩ RdL.nil (by simp)))
  clear hb8 ho8 hr8 HC7 HV7
  go_wp2_with fail
  refine HG8.out.mono ?_
  rintro e w9 ⟨T9, rfl, hc9, hr9, hb9⟩
  have HB9 := Lib.hid (Below.trans' HB8.out HB8.out.size (Below.lower hb9 HB8.out.size))
  have HC9 := Lib.hid (HC8.out.below hb9)
  have HR9 := Lib.hid (HR8.out.below hb9)
  have HP9 := Lib.hid (copies_any w9 0 _ 0 0 [] [] hc9 hr9 (by simp) (fun _ h => by simp at h))
  clear hb9 hc9 hr9 HG8 HC8 HR8
  go_wp2_with fail
  refine HP9.out.mono ?_
  rintro e w10 ⟨A10, k10, vs10, rfl, -, -, hb10⟩
  have HB10 := Lib.hid (Below.trans' HB9.out HB9.out.size (Below.lower hb10 HB9.out.size))
  have HC10 := Lib.hid (HC9.out.below hb10)
  have HR10 := Lib.hid (HR9.out.below hb10)
  clear hb10
  go_wp2
  go_ret3
  exact ⟨A8, k8, A10, k10, vs8, by rw [HN6.out]; rfl, by rw [HN6.out]; exact HC10.out, HR10.out, HB10.out⟩
end Go.Proofs.YtdhbhbkgjdamoaaGreatDoor
