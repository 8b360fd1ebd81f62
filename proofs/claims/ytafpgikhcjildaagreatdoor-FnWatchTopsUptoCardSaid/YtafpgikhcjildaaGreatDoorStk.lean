/- The stack's methods, walked. -/
import Derived.Test.YtafpgikhcjildaaGreatDoorAppend
import Derived.Test.YtafpgikhcjildaaGreatDoorProg
import Derived.WalkKit
import Derived.WalkSpells
import Derived.WalkLawsBesides
import Derived.BigQuiet
import Derived.Deep.QuietTactic
import Derived.Outline
import Derived.StillTailTactics
import Derived.Lib.Hide
import Derived.Deep.RegionHeld
namespace Go.Proofs.YtafpgikhcjildaaGreatDoor
open Go.RowKit Go.Proofs

set_option maxRecDepth 100000

theorem info_rows : (Tryz.prog.info? 24).map (fun i => (i.zero, i.size, i.bytes)) = some (some (.slice none 0 0), 1, 24) := by kernel_rfl
theorem info_u8 : (Tryz.prog.info? 5).map (fun i => (i.zero, i.size, i.bytes)) = some (some (.int .u8 0), 1, 1) := by kernel_rfl

/-- scriptError: an error's parts. -/
theorem scriptError_any (w : World) (c : Int) (s : ByteArray) :
    Calls Tryz.prog 26 #[.int .i64 c, .string s] w fun e w' => e = .returned (.agg #[.int .i64 c, .string s]) ∧ Below w.heap.size w w' := by
  go_enter Tryz.func26, Tryz.ntmps26
  go_wp2
  exact bodyPost_ret (v := .agg #[.int .i64 c, .string s]) (by simp [results, Tryz.results26, go_sem]) rfl ⟨rfl, (Below.refl _ _).alloc (Nat.le_refl _) _⟩

theorem depth_any (w : World) (b o n c : Nat) (A : Option Addr) (hn : n ≤ 2147483647) (h : w.cell? ⟨b, o, none⟩ = some (.slice A n c)) :
    Calls Tryz.prog 38 #[.pointer (some ⟨b, o, none⟩)] w fun e w' => e = .returned (.int .i32 n) ∧ w = w' := by
  have hn1 : (n : Int) ≤ 2147483647 := by omega
  go_enter Tryz.func38, Tryz.ntmps38
  go_wp2
  go_ret
  exact ⟨rfl, rfl⟩

/-- PushByteArray. -/
theorem push_any (w : World) (b o t base n : Nat) (cs : Array Value) (A As : Option Addr) (c ns cs' : Nat) (items : List Value)
    (hB : Blk w b t cs) (hv : cs[o]? = some (.slice A n c)) (hown : w.ownsRow base 24 1 (.slice A n c) n items) (ht : 24 ≠ t) (hn : n ≤ 100000) (hbase : base ≤ w.heap.size) :
    Calls Tryz.prog 149 #[.pointer (some ⟨b, o, none⟩), .slice As ns cs'] w fun e w' => e = .returned (.tuple #[]) ∧
      ∃ A' c', Blk w' b t (cs.setIfInBounds o (.slice A' (n + 1) c')) ∧ w'.ownsRow base 24 1 (.slice A' (n + 1) c') (n + 1) (items ++ [.slice As ns cs']) ∧
        Fm (M2 b (.slice A n c)) w w' ∧ ((Value.slice A' (n + 1) c').ownBlock = (Value.slice A n c).ownBlock ∨ (Value.slice A' (n + 1) c').ownBlock = some (w.heap.size + 1) ∨ (Value.slice A' (n + 1) c').ownBlock = some w.heap.size) := by
  obtain ⟨i0, hi, hz0, hz1, hz2⟩ := info_parts info_rows
  have hc := (hB.cell o).trans hv
  have hf := hB.frozen o
  have hbl := hB.lt
  have hone : Hid (∀ u ∈ [Value.slice As ns cs'], u.oneCell' = true) := by intro u hu; simp at hu; subst hu; rfl
  have hbs : Hid ((n + 1) * 24 ≤ 140737488355328) := by show _ ≤ _; omega
  have hba : Hid (base ≤ (w.alloc (.cells #[.slice As ns cs'] 24)).heap.size) := by show _ ≤ _; simp; omega
  have hp : Hid (0 < 24) := by show 0 < 24; omega
  go_enter Tryz.func149, Tryz.ntmps149
  go_wp2_with (at_builtin; refine Stop.mk ?_)
  refine Stop.go ?_
  refine wpList_append_cells _ rfl (.tmp 8) (.tmp 10) 22 rfl base 24 i0 _ 24 Tryz.underlying22 hi hz0 hz1 hz2 rfl (.slice A n c) n items rfl (hown.alloc _) (some ⟨w.heap.size, 0, none⟩) 1 1 [.slice As ns cs'] rfl (Cells.one w _ _) hone.out hbs.out hp.out hba.out ?_
  intro v' w1 hown' hgrow hat
  obtain ⟨A', c', rfl⟩ := own_form hown'
  have hB1 := (hB.alloc (.cells #[.slice As ns cs'] 24)).grown hgrow (Ne.symm (own_blk_ne hown hB ht))
  have hc1 := (hB1.cell o).trans hv
  have hf1 := hB1.frozen o
  have hbl1 := hB1.lt
  go_wp2
  go_end0
  refine ⟨rfl, A', c', hB1.set_ o _, own_set hown' (p := ⟨b, o, none⟩) hB1 ht _, ?_, ?_⟩
  · exact (((Fm.refl _ w).alloc _).grown hgrow (fun k _ hk => .inr hk)).setCell (p := ⟨b, o, none⟩) (fun _ => .inl rfl) _
  · rcases hat with h | h
    · exact .inl h
    · exact .inr (.inl (by rw [h]; simp))
end Go.Proofs.YtafpgikhcjildaaGreatDoor
