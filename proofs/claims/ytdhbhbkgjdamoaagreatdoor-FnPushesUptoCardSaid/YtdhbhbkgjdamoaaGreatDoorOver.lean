/- Over: the machine of pushes, over a stack that is set ahead. -/
import Derived.Test.YtdhbhbkgjdamoaaGreatDoorEnginep
import Derived.Test.YtdhbhbkgjdamoaaGreatDoorPushes
import Derived.Test.YtdhbhbkgjdamoaaGreatDoorGet
import Derived.Test.YtdhbhbkgjdamoaaGreatDoorPost
namespace Go.Proofs.YtdhbhbkgjdamoaaGreatDoor
open Go.RowKit Go.Proofs

set_option maxRecDepth 100000

theorem En.k23 {cs cs' : Array Value} {sb si k oi off : Nat} {sl : Value} {pos : Int} (h : En cs sb si k oi sl off pos) (q : K23 cs cs') : En cs' sb si k oi sl off pos :=
  { c6 := (q 6 (by omega)).trans h.c6, c7 := (q 7 (by omega)).trans h.c7, c11 := (q 11 (by omega)).trans h.c11, c12 := (q 12 (by omega)).trans h.c12, c13 := (q 13 (by omega)).trans h.c13,
    c14 := h.c14.imp fun _ e => (q 14 (by omega)).trans e, c15 := (q 15 (by omega)).trans h.c15, c16 := h.c16.imp fun _ e => (q 16 (by omega)).trans e, c17 := (q 17 (by omega)).trans h.c17, c18 := (q 18 (by omega)).trans h.c18,
    c19 := h.c19.imp fun _ e => (q 19 (by omega)).trans e, c20 := h.c20.imp fun _ e => (q 20 (by omega)).trans e, c21 := (q 21 (by omega)).trans h.c21, c24 := h.c24.imp fun _ e => (q 24 (by omega)).trans e, c25 := (q 25 (by omega)).trans h.c25,
    c27 := (q 27 (by omega)).trans h.c27, c28 := (q 28 (by omega)).trans h.c28, c30 := (q 30 (by omega)).trans h.c30, c32 := (q 32 (by omega)).trans h.c32 }

/-- A machine with no row at all, by a bound of now. -/
theorem Vm.rebase {w : World} {g : Nat} {B : Bd} {cs : Array Value} (h : Vm w g B cs []) (h23 : cs[23]? = some (.slice none 0 0)) : Vm w g ⟨w.heap.size, fun _ => False⟩ cs [] :=
  ⟨h.blk, ⟨Nat.le_refl _, fun _ h => h.elim⟩, fun _ _ _ _ h => h, none, 0, [], h23, ⟨rfl, .inl ⟨rfl, rfl⟩⟩, RdL.nil⟩

/-- The loop's relation. -/
def SsRel (w : World) (g : Nat) (B : Bd) (cs : Array Value) (n : Nat) (xss : List (List UInt8)) (k : Nat) (s : Value) (wx : World) : Prop :=
  ∃ (i : Nat) (cs' : Array Value), k = n - i + 1 ∧ i ≤ n ∧ s = .int .i64 i ∧ Vm wx g B cs' (xss.take i) ∧ K23 cs cs' ∧ Fs g B w wx

theorem setStack_vm (w : World) (g : Nat) (B : Bd) (cs : Array Value) (A : Option Addr) (n c : Nat) (vs : List Value) (xss : List (List UInt8)) (hV : Vm w g B cs []) (h23 : cs[23]? = some (.slice none 0 0)) (hc : Cells w A n vs) (hr : RdL 0 w vs xss) (hlow : ∀ b o, A = some ⟨b, o, none⟩ → 0 < n → b < B.n ∧ b ≠ g) (hn : n ≤ 1000) :
    Calls Tryz.prog 26 #[.pointer (some ⟨g, 23, none⟩), .slice A n c] w fun e w' => e = .returned (.tuple #[]) ∧ ∃ cs', Vm w' g B cs' xss ∧ K23 cs cs' ∧ Fs g B w w' := by
  have hlen : xss.length = n := by rw [← hr.1, hc.1]
  have c23 := (hV.blk.cell 23).trans h23
  have hbl := hV.blk.lt
  have HV := Lib.hid hV
  have HC := Lib.hid hc
  have HR := Lib.hid hr
  have HL := Lib.hid hlow
  clear hV hc hr hlow h23
  go_enter Tryz.func26, Tryz.ntmps26
  go_wp2_with fail
  refine (depth_any w g 23 0 0 none (by omega) c23).mono ?_
  rintro e w1 ⟨rfl, rfl⟩
  go_wp2_with fail
  refine (dropN0_any w _).mono ?_
  rintro e w1 ⟨⟨x, rfl⟩, hb1⟩
  have HV1 := Lib.hid (HV.out.below hb1)
  have HF1 := Lib.hid (Fs.of_below (g := g) (B := B) hb1)
  clear hb1 c23
  go_wp2_with fail
  go_loopg [11, 4] (n + 1) (fun k s s2 wx => SsRel w g B cs n xss k s wx)
  case atStart => exact ⟨0, cs, by simp, Nat.zero_le _, rfl, HV1.out, K23.refl _, HF1.out⟩
  case round =>
    obtain ⟨i, cs', rfl, hin, rfl, hv, hk, hf⟩ := hrel
    have HVI := Lib.hid hv
    have HKI := Lib.hid hk
    have HFI := Lib.hid hf
    clear hv hk hf
    by_cases h0 : i = n
    · subst h0
      have ht : xss.take i = xss := List.take_of_length_le (by omega)
      have hd : decide ((i : Int) < i) = false := by simp
      go_wp2
      go_end0
      exact ⟨rfl, cs', by rw [← ht]; exact HVI.out, HKI.out, HFI.out⟩
    · have h1 : (i : Int) < (n : Int) := by omega
      have h2 : (0 : Int) ≤ (i : Int) := by omega
      obtain ⟨b, o, rfl, hcells⟩ := HC.out.2 (by omega)
      obtain ⟨hbB, hbg⟩ := HL.out b o rfl (by omega)
      obtain ⟨v, hv⟩ : ∃ v, vs[i]? = some v := ⟨vs[i]'(by rw [HC.out.1]; omega), List.getElem?_eq_getElem _⟩
      obtain ⟨xs, hxs⟩ : ∃ xs, xss[i]? = some xs := ⟨xss[i]'(by omega), List.getElem?_eq_getElem _⟩
      have hvr := HR.out.2 i v xs hv hxs
      have hcl : wr.cell? ⟨b, o + i, none⟩ = some v := HFI.out.cell (hcells i v hv) hbB hbg
      have hvr' : Rd 0 wr v xs := HFI.out.rd HV.out.blk hvr
      have HP := Lib.hid (push_vm wr g B cs' _ v xs HVI.out hvr' (by simp; omega))
      have hblr := HVI.out.blk.lt
      have HXS := Lib.hid hxs
      clear hvr hvr' hcells hv hxs
      go_wp2_with fail
      refine HP.out.mono ?_
      rintro e w2 ⟨rfl, cs2, hv2, hk2, hf2⟩
      have HV2 := Lib.hid hv2
      have HK2 := Lib.hid (HKI.out.trans hk2)
      have HF2 := Lib.hid (HFI.out.trans hf2)
      clear hv2 hk2 hf2 HP
      go_wp2_with fail
      have hw1 : (i : Int) + 1 = ((i + 1 : Nat) : Int) := by omega
      go_roundg (n - (i + 1) + 1)
      case measure => omega
      case rel =>
        have ht : xss.take (i + 1) = xss.take i ++ [xs] := by rw [List.take_add_one, HXS.out]; rfl
        refine ⟨i + 1, cs2, rfl, by omega, ?_, by rw [ht]; exact HV2.out, HK2.out, HF2.out⟩
        rw [← hw1]

theorem setStack_nil (w : World) (g o : Nat) (A : Option Addr) (c : Nat) (hc : w.cell? ⟨g, o, none⟩ = some (.slice none 0 0)) :
    Calls Tryz.prog 26 #[.pointer (some ⟨g, o, none⟩), .slice A 0 c] w fun e w' => e = .returned (.tuple #[]) ∧ Below w.heap.size w w' := by
  go_enter Tryz.func26, Tryz.ntmps26
  go_wp2_with fail
  refine (depth_any w g o 0 0 none (by omega) hc).mono ?_
  rintro e w1 ⟨rfl, rfl⟩
  go_wp2_with fail
  refine (dropN0_any w _).mono ?_
  rintro e w1 ⟨⟨x, rfl⟩, hb1⟩
  have HB1 := Lib.hid hb1
  clear hb1 hc
  go_wp2_with fail
  go_loopg [11, 4] 1 (fun k s s2 wx => k = 1 ∧ s = .int .i64 0 ∧ Below w.heap.size w wx)
  case atStart => exact ⟨rfl, rfl, HB1.out⟩
  case round =>
    obtain ⟨rfl, rfl, hb⟩ := hrel
    have HB := Lib.hid hb
    clear hb
    go_wp2
    go_end0
    exact ⟨rfl, HB.out⟩

theorem set_g (w : World) (g : Nat) (v : Value) (R : Ending → World → Prop) (hg : g < w.heap.size) (hR : ∀ e w', R e w' → e = .returned (.tuple #[]))
    (h : Calls Tryz.prog 26 #[.pointer (some ⟨g, 23, none⟩), v] w R) :
    Calls Tryz.prog 15 #[.pointer (some ⟨g, 0, none⟩), v] w R := by
  have H := Lib.hid h
  have HR := Lib.hid hR
  clear h hR
  go_enter Tryz.func15, Tryz.ntmps15
  go_wp2_with fail
  refine H.out.mono ?_
  intro e w1 h1
  have he := HR.out e w1 h1
  subst he
  have h1 := Lib.hid h1
  go_wp2
  go_end0
  exact h1.out

theorem setAlt_g (w : World) (g : Nat) (v : Value) (R : Ending → World → Prop) (hg : g < w.heap.size) (hR : ∀ e w', R e w' → e = .returned (.tuple #[]))
    (h : Calls Tryz.prog 26 #[.pointer (some ⟨g, 25, none⟩), v] w R) :
    Calls Tryz.prog 17 #[.pointer (some ⟨g, 0, none⟩), v] w R := by
  have H := Lib.hid h
  have HR := Lib.hid hR
  clear h hR
  go_enter Tryz.func17, Tryz.ntmps17
  go_wp2_with fail
  refine H.out.mono ?_
  intro e w1 h1
  have he := HR.out e w1 h1
  subst he
  have h1 := Lib.hid h1
  go_wp2
  go_end0
  exact h1.out

theorem getAlt_g (w : World) (g : Nat) (R : Ending → World → Prop) (hg : g < w.heap.size) (hR : ∀ e w', R e w' → ∃ A n c, e = .returned (.slice A n c))
    (h : Calls Tryz.prog 30 #[.pointer (some ⟨g, 25, none⟩)] w R) :
    Calls Tryz.prog 20 #[.pointer (some ⟨g, 0, none⟩)] w R := by
  have H := Lib.hid h
  have HR := Lib.hid hR
  clear h hR
  go_enter Tryz.func20, Tryz.ntmps20
  go_wp2_with fail
  refine H.out.mono ?_
  intro e w1 h1
  obtain ⟨A, n, c, rfl⟩ := HR.out e w1 h1
  have h1 := Lib.hid h1
  go_wp2
  exact h1.out
end Go.Proofs.YtdhbhbkgjdamoaaGreatDoor
