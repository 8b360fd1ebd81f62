/- The machine of a lock's spend. -/
import Derived.Test.YtkgihpebghmnbaaGreatDoorG15
import Derived.Test.YtkgihpebghmnbaaGreatDoorG11
import Derived.Deep.RegionHeld3
namespace Go.Proofs.YtkgihpebghmnbaaGreatDoor
open Go.RowKit Go.Proofs

set_option maxRecDepth 100000

theorem canned_any (w : World) (A : Option Addr) (n c : Nat) (k : Int) :
    Calls Tryz.prog 54 #[.slice A n c, .int .i64 k] w fun e w' => (∃ b, e = .returned (.pointer (some ⟨b, 0, none⟩))) ∧ Below w.heap.size w w' := by
  go_enter Tryz.func54, Tryz.ntmps54
  go_wp2
  go_ret
  exact ⟨⟨_, rfl⟩, (Below.refl _ _).alloc (Nat.le_refl _) _⟩

theorem cell_below {w w' : World} {a : Addr} {u : Value} (h : Below w.heap.size w w') (hc : w.cell? a = some u) : w'.cell? a = some u :=
  (World.cell?_of_block (w := w) (h.block a.block (World.block_lt_of_cell? w _ hc))).trans hc

theorem Blk.step {w w' : World} {g : Nat} {t : TypeId} {cs : Array Value} (h : Blk w g t cs) (hb : Below w.heap.size w w') : Blk w' g t cs := h.below hb h.lt

theorem keepF {w w' : World} {T : Nat} {u v : Value} (h : Below w.heap.size w w') (hS : w.cell? ⟨T, 0, none⟩ = some u ∧ w.cell? ⟨T, 1, none⟩ = some v) : w'.cell? ⟨T, 0, none⟩ = some u ∧ w'.cell? ⟨T, 1, none⟩ = some v := ⟨cell_below h hS.1, cell_below h hS.2⟩

theorem fetcher_any (w : World) (A : Option Addr) (n c : Nat) (bs : List UInt8) (k : Int) (c2 c3 c4 c5 c6 c7 : Value) (h : Rd 0 w (.slice A n c) bs) (hn : n ≤ 1000000000) :
    Calls Tryz.prog 33 #[.agg #[.slice A n c, .int .i64 k, c2, c3, c4, c5, c6, c7]] w fun e w' => (∃ x, e = .returned (.iface 134 x)) ∧ Below w.heap.size w w' := by
  have hb : Below w.heap.size w (w.alloc (.cells #[.slice A n c, .int .i64 k, c2, c3, c4, c5, c6, c7] 48)) := (Below.refl _ _).alloc (Nat.le_refl _) _
  have H := Lib.hid (h.below hb)
  have hT := Blk.new w 48 #[.slice A n c, .int .i64 k, c2, c3, c4, c5, c6, c7]
  have a0 := hT.cell 0
  change _ = some (Value.slice A n c) at a0
  have a1 := hT.cell 1
  change _ = some (Value.int .i64 k) at a1
  have hw : w.heap.size ≤ (w.alloc (.cells #[.slice A n c, .int .i64 k, c2, c3, c4, c5, c6, c7] 48)).heap.size := by simp
  clear h hT
  go_enter Tryz.func33, Tryz.ntmps33
  go_wp2_with fail
  generalize w.alloc (.cells #[.slice A n c, .int .i64 k, c2, c3, c4, c5, c6, c7] 48) = W at *
  have hf0 : Below w.heap.size w W.drew := ⟨hb.os, hb.tape, hb.output, hb.size, hb.block⟩
  generalize hT : w.heap.size = T at *
  go_region_held3 (fun w' => w'.cell? ⟨T, 0, none⟩ = some (.slice A n c) ∧ w'.cell? ⟨T, 1, none⟩ = some (.int .i64 k))
    ((first | exact ⟨a0, a1⟩ | exact keepF (by assumption) (by assumption) | exact keepF (by assumption) ⟨a0, a1⟩))
    (first
      | (go_at_call 18; refine (copied_any W.drew 0 n c A bs (show Rd 0 W.drew _ _ from H.out) hn).mono ?_; rintro e w' ⟨A', c', rfl, -, hb1⟩; have hf1 := Below.trans' hf0 hw (Below.lower hb1 hw); have hz1 := Nat.le_trans hw hb1.size)
      | (go_at_call 54; refine (canned_any _ _ _ _ _).mono ?_; rintro e w' ⟨⟨b, rfl⟩, hb2⟩; have hf2 := Below.trans' (b := T) (w := w) (by assumption) (by assumption) (Below.lower hb2 (by assumption))))
  go_wp2
  go_ret
  exact ⟨⟨_, rfl⟩, by rw [hT]; assumption⟩

/-- What the transaction of the text is that is built of a plain one with one input and one output. -/
def TxPost (w : World) (ver lock : Int) (e : Ending) (w' : World) : Prop :=
  ∃ tb ib rn rc As cs1 txo, e = .returned (.pointer (some ⟨tb, 0, none⟩)) ∧ Blk w' tb 79 #[.int .i32 ver, .slice (some ⟨rn, 0, none⟩) 1 rc, txo, .int .u32 lock] ∧ (∃ A n c, txo = .slice A n c) ∧
    w'.cell? ⟨rn, 0, none⟩ = some (.pointer (some ⟨ib, 0, none⟩)) ∧ w'.cell? ⟨ib, 33, none⟩ = some (.slice As 0 cs1) ∧ w'.cell? ⟨ib, 35, none⟩ = some (.int .u32 100) ∧ Below w.heap.size w w'
/-- txOf's contract, for the transactions of these laws. -/
def TxSaid (inC : Array Value) : Prop := ∀ (w : World) (ri ro c1 c2 : Nat) (ver lock : Int), Blk w ri 43 inC → Blk w ro 34 #[.int .i64 1, .slice none 0 0] →
  Calls Tryz.prog 19 #[.agg #[.int .i32 ver, .slice (some ⟨ri, 0, none⟩) 1 c1, .slice (some ⟨ro, 0, none⟩) 1 c2, .int .u32 lock]] w (TxPost w ver lock)

/-- The cells of a spend. -/
def Sp (T : Nat) (c0 c1 c2 c3 c4 c5 c6 c7 : Value) (w : World) : Prop := w.cell? ⟨T, 0, none⟩ = some c0 ∧ w.cell? ⟨T, 1, none⟩ = some c1 ∧ w.cell? ⟨T, 2, none⟩ = some c2 ∧ w.cell? ⟨T, 3, none⟩ = some c3 ∧
  w.cell? ⟨T, 4, none⟩ = some c4 ∧ w.cell? ⟨T, 5, none⟩ = some c5 ∧ w.cell? ⟨T, 6, none⟩ = some c6 ∧ w.cell? ⟨T, 7, none⟩ = some c7
theorem Sp.keep {w w' : World} {T : Nat} {c0 c1 c2 c3 c4 c5 c6 c7 : Value} (h : Below w.heap.size w w') (hS : Sp T c0 c1 c2 c3 c4 c5 c6 c7 w) : Sp T c0 c1 c2 c3 c4 c5 c6 c7 w' := by
  obtain ⟨h0, h1, h2, h3, h4, h5, h6, h7⟩ := hS
  exact ⟨cell_below h h0, cell_below h h1, cell_below h h2, cell_below h h3, cell_below h h4, cell_below h h5, cell_below h h6, cell_below h h7⟩

end Go.Proofs.YtkgihpebghmnbaaGreatDoor
