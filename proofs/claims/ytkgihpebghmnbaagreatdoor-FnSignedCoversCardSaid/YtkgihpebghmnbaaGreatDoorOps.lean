/- What opcodeOf hands back of each opcode that the walks meet: by reckoning. -/
import Derived.Test.YtkgihpebghmnbaaGreatDoorG03
import Derived.Test.YtkgihpebghmnbaaGreatDoorProg
namespace Go.Proofs.YtkgihpebghmnbaaGreatDoor
open Go.RowKit Go.Proofs

/-- What opcodeOf hands back of an opcode. -/
def OpIs (v : Nat) (nm : ByteArray) (len : Int) : Prop :=
  ∀ w : World, Calls Tryz.prog 68 #[.int .u8 v] w fun e w' => e = .returned (.pointer (some ⟨w.heap.size, 0, none⟩)) ∧ w.alloc (.cells #[.int .u8 v, .string nm, .int .i64 len] 154) = w'

theorem op0 : OpIs 0 ⟨#[79, 80, 95, 48]⟩ 1 := fun w =>
  calls_reckoned (c := Tryz.f68.body.getD .skip) 20000 w Tryz.func68 (by kernel_rfl) 1028 Tryz.ntmps68 (by decide) 2 Tryz.results68 [] (.pointer (some ⟨w.heap.size, 0, none⟩)) [.cells #[.int .u8 0, .string ⟨#[79, 80, 95, 48]⟩, .int .i64 1] 154] [] (by kernel_rfl) (fun _ h => by cases h) ⟨rfl, rfl⟩
theorem op1 : OpIs 1 ⟨#[79, 80, 95, 68, 65, 84, 65, 95, 49]⟩ 2 := fun w =>
  calls_reckoned (c := Tryz.f68.body.getD .skip) 20000 w Tryz.func68 (by kernel_rfl) 1028 Tryz.ntmps68 (by decide) 2 Tryz.results68 [] (.pointer (some ⟨w.heap.size, 0, none⟩)) [.cells #[.int .u8 1, .string ⟨#[79, 80, 95, 68, 65, 84, 65, 95, 49]⟩, .int .i64 2] 154] [] (by kernel_rfl) (fun _ h => by cases h) ⟨rfl, rfl⟩
theorem op2 : OpIs 2 ⟨#[79, 80, 95, 68, 65, 84, 65, 95, 50]⟩ 3 := fun w =>
  calls_reckoned (c := Tryz.f68.body.getD .skip) 20000 w Tryz.func68 (by kernel_rfl) 1028 Tryz.ntmps68 (by decide) 2 Tryz.results68 [] (.pointer (some ⟨w.heap.size, 0, none⟩)) [.cells #[.int .u8 2, .string ⟨#[79, 80, 95, 68, 65, 84, 65, 95, 50]⟩, .int .i64 3] 154] [] (by kernel_rfl) (fun _ h => by cases h) ⟨rfl, rfl⟩
theorem op3 : OpIs 3 ⟨#[79, 80, 95, 68, 65, 84, 65, 95, 51]⟩ 4 := fun w =>
  calls_reckoned (c := Tryz.f68.body.getD .skip) 20000 w Tryz.func68 (by kernel_rfl) 1028 Tryz.ntmps68 (by decide) 2 Tryz.results68 [] (.pointer (some ⟨w.heap.size, 0, none⟩)) [.cells #[.int .u8 3, .string ⟨#[79, 80, 95, 68, 65, 84, 65, 95, 51]⟩, .int .i64 4] 154] [] (by kernel_rfl) (fun _ h => by cases h) ⟨rfl, rfl⟩
theorem op4 : OpIs 4 ⟨#[79, 80, 95, 68, 65, 84, 65, 95, 52]⟩ 5 := fun w =>
  calls_reckoned (c := Tryz.f68.body.getD .skip) 20000 w Tryz.func68 (by kernel_rfl) 1028 Tryz.ntmps68 (by decide) 2 Tryz.results68 [] (.pointer (some ⟨w.heap.size, 0, none⟩)) [.cells #[.int .u8 4, .string ⟨#[79, 80, 95, 68, 65, 84, 65, 95, 52]⟩, .int .i64 5] 154] [] (by kernel_rfl) (fun _ h => by cases h) ⟨rfl, rfl⟩
theorem op5 : OpIs 5 ⟨#[79, 80, 95, 68, 65, 84, 65, 95, 53]⟩ 6 := fun w =>
  calls_reckoned (c := Tryz.f68.body.getD .skip) 20000 w Tryz.func68 (by kernel_rfl) 1028 Tryz.ntmps68 (by decide) 2 Tryz.results68 [] (.pointer (some ⟨w.heap.size, 0, none⟩)) [.cells #[.int .u8 5, .string ⟨#[79, 80, 95, 68, 65, 84, 65, 95, 53]⟩, .int .i64 6] 154] [] (by kernel_rfl) (fun _ h => by cases h) ⟨rfl, rfl⟩
theorem op6 : OpIs 6 ⟨#[79, 80, 95, 68, 65, 84, 65, 95, 54]⟩ 7 := fun w =>
  calls_reckoned (c := Tryz.f68.body.getD .skip) 20000 w Tryz.func68 (by kernel_rfl) 1028 Tryz.ntmps68 (by decide) 2 Tryz.results68 [] (.pointer (some ⟨w.heap.size, 0, none⟩)) [.cells #[.int .u8 6, .string ⟨#[79, 80, 95, 68, 65, 84, 65, 95, 54]⟩, .int .i64 7] 154] [] (by kernel_rfl) (fun _ h => by cases h) ⟨rfl, rfl⟩
theorem op7 : OpIs 7 ⟨#[79, 80, 95, 68, 65, 84, 65, 95, 55]⟩ 8 := fun w =>
  calls_reckoned (c := Tryz.f68.body.getD .skip) 20000 w Tryz.func68 (by kernel_rfl) 1028 Tryz.ntmps68 (by decide) 2 Tryz.results68 [] (.pointer (some ⟨w.heap.size, 0, none⟩)) [.cells #[.int .u8 7, .string ⟨#[79, 80, 95, 68, 65, 84, 65, 95, 55]⟩, .int .i64 8] 154] [] (by kernel_rfl) (fun _ h => by cases h) ⟨rfl, rfl⟩
theorem op8 : OpIs 8 ⟨#[79, 80, 95, 68, 65, 84, 65, 95, 56]⟩ 9 := fun w =>
  calls_reckoned (c := Tryz.f68.body.getD .skip) 20000 w Tryz.func68 (by kernel_rfl) 1028 Tryz.ntmps68 (by decide) 2 Tryz.results68 [] (.pointer (some ⟨w.heap.size, 0, none⟩)) [.cells #[.int .u8 8, .string ⟨#[79, 80, 95, 68, 65, 84, 65, 95, 56]⟩, .int .i64 9] 154] [] (by kernel_rfl) (fun _ h => by cases h) ⟨rfl, rfl⟩
theorem op9 : OpIs 9 ⟨#[79, 80, 95, 68, 65, 84, 65, 95, 57]⟩ 10 := fun w =>
  calls_reckoned (c := Tryz.f68.body.getD .skip) 20000 w Tryz.func68 (by kernel_rfl) 1028 Tryz.ntmps68 (by decide) 2 Tryz.results68 [] (.pointer (some ⟨w.heap.size, 0, none⟩)) [.cells #[.int .u8 9, .string ⟨#[79, 80, 95, 68, 65, 84, 65, 95, 57]⟩, .int .i64 10] 154] [] (by kernel_rfl) (fun _ h => by cases h) ⟨rfl, rfl⟩
theorem op10 : OpIs 10 ⟨#[79, 80, 95, 68, 65, 84, 65, 95, 49, 48]⟩ 11 := fun w =>
  calls_reckoned (c := Tryz.f68.body.getD .skip) 20000 w Tryz.func68 (by kernel_rfl) 1028 Tryz.ntmps68 (by decide) 2 Tryz.results68 [] (.pointer (some ⟨w.heap.size, 0, none⟩)) [.cells #[.int .u8 10, .string ⟨#[79, 80, 95, 68, 65, 84, 65, 95, 49, 48]⟩, .int .i64 11] 154] [] (by kernel_rfl) (fun _ h => by cases h) ⟨rfl, rfl⟩
theorem op11 : OpIs 11 ⟨#[79, 80, 95, 68, 65, 84, 65, 95, 49, 49]⟩ 12 := fun w =>
  calls_reckoned (c := Tryz.f68.body.getD .skip) 20000 w Tryz.func68 (by kernel_rfl) 1028 Tryz.ntmps68 (by decide) 2 Tryz.results68 [] (.pointer (some ⟨w.heap.size, 0, none⟩)) [.cells #[.int .u8 11, .string ⟨#[79, 80, 95, 68, 65, 84, 65, 95, 49, 49]⟩, .int .i64 12] 154] [] (by kernel_rfl) (fun _ h => by cases h) ⟨rfl, rfl⟩
theorem op12 : OpIs 12 ⟨#[79, 80, 95, 68, 65, 84, 65, 95, 49, 50]⟩ 13 := fun w =>
  calls_reckoned (c := Tryz.f68.body.getD .skip) 20000 w Tryz.func68 (by kernel_rfl) 1028 Tryz.ntmps68 (by decide) 2 Tryz.results68 [] (.pointer (some ⟨w.heap.size, 0, none⟩)) [.cells #[.int .u8 12, .string ⟨#[79, 80, 95, 68, 65, 84, 65, 95, 49, 50]⟩, .int .i64 13] 154] [] (by kernel_rfl) (fun _ h => by cases h) ⟨rfl, rfl⟩
theorem op13 : OpIs 13 ⟨#[79, 80, 95, 68, 65, 84, 65, 95, 49, 51]⟩ 14 := fun w =>
  calls_reckoned (c := Tryz.f68.body.getD .skip) 20000 w Tryz.func68 (by kernel_rfl) 1028 Tryz.ntmps68 (by decide) 2 Tryz.results68 [] (.pointer (some ⟨w.heap.size, 0, none⟩)) [.cells #[.int .u8 13, .string ⟨#[79, 80, 95, 68, 65, 84, 65, 95, 49, 51]⟩, .int .i64 14] 154] [] (by kernel_rfl) (fun _ h => by cases h) ⟨rfl, rfl⟩
theorem op14 : OpIs 14 ⟨#[79, 80, 95, 68, 65, 84, 65, 95, 49, 52]⟩ 15 := fun w =>
  calls_reckoned (c := Tryz.f68.body.getD .skip) 20000 w Tryz.func68 (by kernel_rfl) 1028 Tryz.ntmps68 (by decide) 2 Tryz.results68 [] (.pointer (some ⟨w.heap.size, 0, none⟩)) [.cells #[.int .u8 14, .string ⟨#[79, 80, 95, 68, 65, 84, 65, 95, 49, 52]⟩, .int .i64 15] 154] [] (by kernel_rfl) (fun _ h => by cases h) ⟨rfl, rfl⟩
theorem op15 : OpIs 15 ⟨#[79, 80, 95, 68, 65, 84, 65, 95, 49, 53]⟩ 16 := fun w =>
  calls_reckoned (c := Tryz.f68.body.getD .skip) 20000 w Tryz.func68 (by kernel_rfl) 1028 Tryz.ntmps68 (by decide) 2 Tryz.results68 [] (.pointer (some ⟨w.heap.size, 0, none⟩)) [.cells #[.int .u8 15, .string ⟨#[79, 80, 95, 68, 65, 84, 65, 95, 49, 53]⟩, .int .i64 16] 154] [] (by kernel_rfl) (fun _ h => by cases h) ⟨rfl, rfl⟩
theorem op16 : OpIs 16 ⟨#[79, 80, 95, 68, 65, 84, 65, 95, 49, 54]⟩ 17 := fun w =>
  calls_reckoned (c := Tryz.f68.body.getD .skip) 20000 w Tryz.func68 (by kernel_rfl) 1028 Tryz.ntmps68 (by decide) 2 Tryz.results68 [] (.pointer (some ⟨w.heap.size, 0, none⟩)) [.cells #[.int .u8 16, .string ⟨#[79, 80, 95, 68, 65, 84, 65, 95, 49, 54]⟩, .int .i64 17] 154] [] (by kernel_rfl) (fun _ h => by cases h) ⟨rfl, rfl⟩
theorem op17 : OpIs 17 ⟨#[79, 80, 95, 68, 65, 84, 65, 95, 49, 55]⟩ 18 := fun w =>
  calls_reckoned (c := Tryz.f68.body.getD .skip) 20000 w Tryz.func68 (by kernel_rfl) 1028 Tryz.ntmps68 (by decide) 2 Tryz.results68 [] (.pointer (some ⟨w.heap.size, 0, none⟩)) [.cells #[.int .u8 17, .string ⟨#[79, 80, 95, 68, 65, 84, 65, 95, 49, 55]⟩, .int .i64 18] 154] [] (by kernel_rfl) (fun _ h => by cases h) ⟨rfl, rfl⟩
theorem op18 : OpIs 18 ⟨#[79, 80, 95, 68, 65, 84, 65, 95, 49, 56]⟩ 19 := fun w =>
  calls_reckoned (c := Tryz.f68.body.getD .skip) 20000 w Tryz.func68 (by kernel_rfl) 1028 Tryz.ntmps68 (by decide) 2 Tryz.results68 [] (.pointer (some ⟨w.heap.size, 0, none⟩)) [.cells #[.int .u8 18, .string ⟨#[79, 80, 95, 68, 65, 84, 65, 95, 49, 56]⟩, .int .i64 19] 154] [] (by kernel_rfl) (fun _ h => by cases h) ⟨rfl, rfl⟩
theorem op19 : OpIs 19 ⟨#[79, 80, 95, 68, 65, 84, 65, 95, 49, 57]⟩ 20 := fun w =>
  calls_reckoned (c := Tryz.f68.body.getD .skip) 20000 w Tryz.func68 (by kernel_rfl) 1028 Tryz.ntmps68 (by decide) 2 Tryz.results68 [] (.pointer (some ⟨w.heap.size, 0, none⟩)) [.cells #[.int .u8 19, .string ⟨#[79, 80, 95, 68, 65, 84, 65, 95, 49, 57]⟩, .int .i64 20] 154] [] (by kernel_rfl) (fun _ h => by cases h) ⟨rfl, rfl⟩
theorem op20 : OpIs 20 ⟨#[79, 80, 95, 68, 65, 84, 65, 95, 50, 48]⟩ 21 := fun w =>
  calls_reckoned (c := Tryz.f68.body.getD .skip) 20000 w Tryz.func68 (by kernel_rfl) 1028 Tryz.ntmps68 (by decide) 2 Tryz.results68 [] (.pointer (some ⟨w.heap.size, 0, none⟩)) [.cells #[.int .u8 20, .string ⟨#[79, 80, 95, 68, 65, 84, 65, 95, 50, 48]⟩, .int .i64 21] 154] [] (by kernel_rfl) (fun _ h => by cases h) ⟨rfl, rfl⟩
theorem op21 : OpIs 21 ⟨#[79, 80, 95, 68, 65, 84, 65, 95, 50, 49]⟩ 22 := fun w =>
  calls_reckoned (c := Tryz.f68.body.getD .skip) 20000 w Tryz.func68 (by kernel_rfl) 1028 Tryz.ntmps68 (by decide) 2 Tryz.results68 [] (.pointer (some ⟨w.heap.size, 0, none⟩)) [.cells #[.int .u8 21, .string ⟨#[79, 80, 95, 68, 65, 84, 65, 95, 50, 49]⟩, .int .i64 22] 154] [] (by kernel_rfl) (fun _ h => by cases h) ⟨rfl, rfl⟩
theorem op22 : OpIs 22 ⟨#[79, 80, 95, 68, 65, 84, 65, 95, 50, 50]⟩ 23 := fun w =>
  calls_reckoned (c := Tryz.f68.body.getD .skip) 20000 w Tryz.func68 (by kernel_rfl) 1028 Tryz.ntmps68 (by decide) 2 Tryz.results68 [] (.pointer (some ⟨w.heap.size, 0, none⟩)) [.cells #[.int .u8 22, .string ⟨#[79, 80, 95, 68, 65, 84, 65, 95, 50, 50]⟩, .int .i64 23] 154] [] (by kernel_rfl) (fun _ h => by cases h) ⟨rfl, rfl⟩
theorem op23 : OpIs 23 ⟨#[79, 80, 95, 68, 65, 84, 65, 95, 50, 51]⟩ 24 := fun w =>
  calls_reckoned (c := Tryz.f68.body.getD .skip) 20000 w Tryz.func68 (by kernel_rfl) 1028 Tryz.ntmps68 (by decide) 2 Tryz.results68 [] (.pointer (some ⟨w.heap.size, 0, none⟩)) [.cells #[.int .u8 23, .string ⟨#[79, 80, 95, 68, 65, 84, 65, 95, 50, 51]⟩, .int .i64 24] 154] [] (by kernel_rfl) (fun _ h => by cases h) ⟨rfl, rfl⟩
theorem op24 : OpIs 24 ⟨#[79, 80, 95, 68, 65, 84, 65, 95, 50, 52]⟩ 25 := fun w =>
  calls_reckoned (c := Tryz.f68.body.getD .skip) 20000 w Tryz.func68 (by kernel_rfl) 1028 Tryz.ntmps68 (by decide) 2 Tryz.results68 [] (.pointer (some ⟨w.heap.size, 0, none⟩)) [.cells #[.int .u8 24, .string ⟨#[79, 80, 95, 68, 65, 84, 65, 95, 50, 52]⟩, .int .i64 25] 154] [] (by kernel_rfl) (fun _ h => by cases h) ⟨rfl, rfl⟩
theorem op25 : OpIs 25 ⟨#[79, 80, 95, 68, 65, 84, 65, 95, 50, 53]⟩ 26 := fun w =>
  calls_reckoned (c := Tryz.f68.body.getD .skip) 20000 w Tryz.func68 (by kernel_rfl) 1028 Tryz.ntmps68 (by decide) 2 Tryz.results68 [] (.pointer (some ⟨w.heap.size, 0, none⟩)) [.cells #[.int .u8 25, .string ⟨#[79, 80, 95, 68, 65, 84, 65, 95, 50, 53]⟩, .int .i64 26] 154] [] (by kernel_rfl) (fun _ h => by cases h) ⟨rfl, rfl⟩
theorem op26 : OpIs 26 ⟨#[79, 80, 95, 68, 65, 84, 65, 95, 50, 54]⟩ 27 := fun w =>
  calls_reckoned (c := Tryz.f68.body.getD .skip) 20000 w Tryz.func68 (by kernel_rfl) 1028 Tryz.ntmps68 (by decide) 2 Tryz.results68 [] (.pointer (some ⟨w.heap.size, 0, none⟩)) [.cells #[.int .u8 26, .string ⟨#[79, 80, 95, 68, 65, 84, 65, 95, 50, 54]⟩, .int .i64 27] 154] [] (by kernel_rfl) (fun _ h => by cases h) ⟨rfl, rfl⟩
theorem op27 : OpIs 27 ⟨#[79, 80, 95, 68, 65, 84, 65, 95, 50, 55]⟩ 28 := fun w =>
  calls_reckoned (c := Tryz.f68.body.getD .skip) 20000 w Tryz.func68 (by kernel_rfl) 1028 Tryz.ntmps68 (by decide) 2 Tryz.results68 [] (.pointer (some ⟨w.heap.size, 0, none⟩)) [.cells #[.int .u8 27, .string ⟨#[79, 80, 95, 68, 65, 84, 65, 95, 50, 55]⟩, .int .i64 28] 154] [] (by kernel_rfl) (fun _ h => by cases h) ⟨rfl, rfl⟩
theorem op28 : OpIs 28 ⟨#[79, 80, 95, 68, 65, 84, 65, 95, 50, 56]⟩ 29 := fun w =>
  calls_reckoned (c := Tryz.f68.body.getD .skip) 20000 w Tryz.func68 (by kernel_rfl) 1028 Tryz.ntmps68 (by decide) 2 Tryz.results68 [] (.pointer (some ⟨w.heap.size, 0, none⟩)) [.cells #[.int .u8 28, .string ⟨#[79, 80, 95, 68, 65, 84, 65, 95, 50, 56]⟩, .int .i64 29] 154] [] (by kernel_rfl) (fun _ h => by cases h) ⟨rfl, rfl⟩
theorem op29 : OpIs 29 ⟨#[79, 80, 95, 68, 65, 84, 65, 95, 50, 57]⟩ 30 := fun w =>
  calls_reckoned (c := Tryz.f68.body.getD .skip) 20000 w Tryz.func68 (by kernel_rfl) 1028 Tryz.ntmps68 (by decide) 2 Tryz.results68 [] (.pointer (some ⟨w.heap.size, 0, none⟩)) [.cells #[.int .u8 29, .string ⟨#[79, 80, 95, 68, 65, 84, 65, 95, 50, 57]⟩, .int .i64 30] 154] [] (by kernel_rfl) (fun _ h => by cases h) ⟨rfl, rfl⟩
theorem op30 : OpIs 30 ⟨#[79, 80, 95, 68, 65, 84, 65, 95, 51, 48]⟩ 31 := fun w =>
  calls_reckoned (c := Tryz.f68.body.getD .skip) 20000 w Tryz.func68 (by kernel_rfl) 1028 Tryz.ntmps68 (by decide) 2 Tryz.results68 [] (.pointer (some ⟨w.heap.size, 0, none⟩)) [.cells #[.int .u8 30, .string ⟨#[79, 80, 95, 68, 65, 84, 65, 95, 51, 48]⟩, .int .i64 31] 154] [] (by kernel_rfl) (fun _ h => by cases h) ⟨rfl, rfl⟩
theorem op31 : OpIs 31 ⟨#[79, 80, 95, 68, 65, 84, 65, 95, 51, 49]⟩ 32 := fun w =>
  calls_reckoned (c := Tryz.f68.body.getD .skip) 20000 w Tryz.func68 (by kernel_rfl) 1028 Tryz.ntmps68 (by decide) 2 Tryz.results68 [] (.pointer (some ⟨w.heap.size, 0, none⟩)) [.cells #[.int .u8 31, .string ⟨#[79, 80, 95, 68, 65, 84, 65, 95, 51, 49]⟩, .int .i64 32] 154] [] (by kernel_rfl) (fun _ h => by cases h) ⟨rfl, rfl⟩
theorem op32 : OpIs 32 ⟨#[79, 80, 95, 68, 65, 84, 65, 95, 51, 50]⟩ 33 := fun w =>
  calls_reckoned (c := Tryz.f68.body.getD .skip) 20000 w Tryz.func68 (by kernel_rfl) 1028 Tryz.ntmps68 (by decide) 2 Tryz.results68 [] (.pointer (some ⟨w.heap.size, 0, none⟩)) [.cells #[.int .u8 32, .string ⟨#[79, 80, 95, 68, 65, 84, 65, 95, 51, 50]⟩, .int .i64 33] 154] [] (by kernel_rfl) (fun _ h => by cases h) ⟨rfl, rfl⟩
theorem op33 : OpIs 33 ⟨#[79, 80, 95, 68, 65, 84, 65, 95, 51, 51]⟩ 34 := fun w =>
  calls_reckoned (c := Tryz.f68.body.getD .skip) 20000 w Tryz.func68 (by kernel_rfl) 1028 Tryz.ntmps68 (by decide) 2 Tryz.results68 [] (.pointer (some ⟨w.heap.size, 0, none⟩)) [.cells #[.int .u8 33, .string ⟨#[79, 80, 95, 68, 65, 84, 65, 95, 51, 51]⟩, .int .i64 34] 154] [] (by kernel_rfl) (fun _ h => by cases h) ⟨rfl, rfl⟩
theorem op34 : OpIs 34 ⟨#[79, 80, 95, 68, 65, 84, 65, 95, 51, 52]⟩ 35 := fun w =>
  calls_reckoned (c := Tryz.f68.body.getD .skip) 20000 w Tryz.func68 (by kernel_rfl) 1028 Tryz.ntmps68 (by decide) 2 Tryz.results68 [] (.pointer (some ⟨w.heap.size, 0, none⟩)) [.cells #[.int .u8 34, .string ⟨#[79, 80, 95, 68, 65, 84, 65, 95, 51, 52]⟩, .int .i64 35] 154] [] (by kernel_rfl) (fun _ h => by cases h) ⟨rfl, rfl⟩
theorem op35 : OpIs 35 ⟨#[79, 80, 95, 68, 65, 84, 65, 95, 51, 53]⟩ 36 := fun w =>
  calls_reckoned (c := Tryz.f68.body.getD .skip) 20000 w Tryz.func68 (by kernel_rfl) 1028 Tryz.ntmps68 (by decide) 2 Tryz.results68 [] (.pointer (some ⟨w.heap.size, 0, none⟩)) [.cells #[.int .u8 35, .string ⟨#[79, 80, 95, 68, 65, 84, 65, 95, 51, 53]⟩, .int .i64 36] 154] [] (by kernel_rfl) (fun _ h => by cases h) ⟨rfl, rfl⟩
theorem op36 : OpIs 36 ⟨#[79, 80, 95, 68, 65, 84, 65, 95, 51, 54]⟩ 37 := fun w =>
  calls_reckoned (c := Tryz.f68.body.getD .skip) 20000 w Tryz.func68 (by kernel_rfl) 1028 Tryz.ntmps68 (by decide) 2 Tryz.results68 [] (.pointer (some ⟨w.heap.size, 0, none⟩)) [.cells #[.int .u8 36, .string ⟨#[79, 80, 95, 68, 65, 84, 65, 95, 51, 54]⟩, .int .i64 37] 154] [] (by kernel_rfl) (fun _ h => by cases h) ⟨rfl, rfl⟩
theorem op37 : OpIs 37 ⟨#[79, 80, 95, 68, 65, 84, 65, 95, 51, 55]⟩ 38 := fun w =>
  calls_reckoned (c := Tryz.f68.body.getD .skip) 20000 w Tryz.func68 (by kernel_rfl) 1028 Tryz.ntmps68 (by decide) 2 Tryz.results68 [] (.pointer (some ⟨w.heap.size, 0, none⟩)) [.cells #[.int .u8 37, .string ⟨#[79, 80, 95, 68, 65, 84, 65, 95, 51, 55]⟩, .int .i64 38] 154] [] (by kernel_rfl) (fun _ h => by cases h) ⟨rfl, rfl⟩
theorem op38 : OpIs 38 ⟨#[79, 80, 95, 68, 65, 84, 65, 95, 51, 56]⟩ 39 := fun w =>
  calls_reckoned (c := Tryz.f68.body.getD .skip) 20000 w Tryz.func68 (by kernel_rfl) 1028 Tryz.ntmps68 (by decide) 2 Tryz.results68 [] (.pointer (some ⟨w.heap.size, 0, none⟩)) [.cells #[.int .u8 38, .string ⟨#[79, 80, 95, 68, 65, 84, 65, 95, 51, 56]⟩, .int .i64 39] 154] [] (by kernel_rfl) (fun _ h => by cases h) ⟨rfl, rfl⟩
theorem op39 : OpIs 39 ⟨#[79, 80, 95, 68, 65, 84, 65, 95, 51, 57]⟩ 40 := fun w =>
  calls_reckoned (c := Tryz.f68.body.getD .skip) 20000 w Tryz.func68 (by kernel_rfl) 1028 Tryz.ntmps68 (by decide) 2 Tryz.results68 [] (.pointer (some ⟨w.heap.size, 0, none⟩)) [.cells #[.int .u8 39, .string ⟨#[79, 80, 95, 68, 65, 84, 65, 95, 51, 57]⟩, .int .i64 40] 154] [] (by kernel_rfl) (fun _ h => by cases h) ⟨rfl, rfl⟩
theorem op40 : OpIs 40 ⟨#[79, 80, 95, 68, 65, 84, 65, 95, 52, 48]⟩ 41 := fun w =>
  calls_reckoned (c := Tryz.f68.body.getD .skip) 20000 w Tryz.func68 (by kernel_rfl) 1028 Tryz.ntmps68 (by decide) 2 Tryz.results68 [] (.pointer (some ⟨w.heap.size, 0, none⟩)) [.cells #[.int .u8 40, .string ⟨#[79, 80, 95, 68, 65, 84, 65, 95, 52, 48]⟩, .int .i64 41] 154] [] (by kernel_rfl) (fun _ h => by cases h) ⟨rfl, rfl⟩
theorem op41 : OpIs 41 ⟨#[79, 80, 95, 68, 65, 84, 65, 95, 52, 49]⟩ 42 := fun w =>
  calls_reckoned (c := Tryz.f68.body.getD .skip) 20000 w Tryz.func68 (by kernel_rfl) 1028 Tryz.ntmps68 (by decide) 2 Tryz.results68 [] (.pointer (some ⟨w.heap.size, 0, none⟩)) [.cells #[.int .u8 41, .string ⟨#[79, 80, 95, 68, 65, 84, 65, 95, 52, 49]⟩, .int .i64 42] 154] [] (by kernel_rfl) (fun _ h => by cases h) ⟨rfl, rfl⟩
theorem op42 : OpIs 42 ⟨#[79, 80, 95, 68, 65, 84, 65, 95, 52, 50]⟩ 43 := fun w =>
  calls_reckoned (c := Tryz.f68.body.getD .skip) 20000 w Tryz.func68 (by kernel_rfl) 1028 Tryz.ntmps68 (by decide) 2 Tryz.results68 [] (.pointer (some ⟨w.heap.size, 0, none⟩)) [.cells #[.int .u8 42, .string ⟨#[79, 80, 95, 68, 65, 84, 65, 95, 52, 50]⟩, .int .i64 43] 154] [] (by kernel_rfl) (fun _ h => by cases h) ⟨rfl, rfl⟩
theorem op43 : OpIs 43 ⟨#[79, 80, 95, 68, 65, 84, 65, 95, 52, 51]⟩ 44 := fun w =>
  calls_reckoned (c := Tryz.f68.body.getD .skip) 20000 w Tryz.func68 (by kernel_rfl) 1028 Tryz.ntmps68 (by decide) 2 Tryz.results68 [] (.pointer (some ⟨w.heap.size, 0, none⟩)) [.cells #[.int .u8 43, .string ⟨#[79, 80, 95, 68, 65, 84, 65, 95, 52, 51]⟩, .int .i64 44] 154] [] (by kernel_rfl) (fun _ h => by cases h) ⟨rfl, rfl⟩
theorem op44 : OpIs 44 ⟨#[79, 80, 95, 68, 65, 84, 65, 95, 52, 52]⟩ 45 := fun w =>
  calls_reckoned (c := Tryz.f68.body.getD .skip) 20000 w Tryz.func68 (by kernel_rfl) 1028 Tryz.ntmps68 (by decide) 2 Tryz.results68 [] (.pointer (some ⟨w.heap.size, 0, none⟩)) [.cells #[.int .u8 44, .string ⟨#[79, 80, 95, 68, 65, 84, 65, 95, 52, 52]⟩, .int .i64 45] 154] [] (by kernel_rfl) (fun _ h => by cases h) ⟨rfl, rfl⟩
theorem op45 : OpIs 45 ⟨#[79, 80, 95, 68, 65, 84, 65, 95, 52, 53]⟩ 46 := fun w =>
  calls_reckoned (c := Tryz.f68.body.getD .skip) 20000 w Tryz.func68 (by kernel_rfl) 1028 Tryz.ntmps68 (by decide) 2 Tryz.results68 [] (.pointer (some ⟨w.heap.size, 0, none⟩)) [.cells #[.int .u8 45, .string ⟨#[79, 80, 95, 68, 65, 84, 65, 95, 52, 53]⟩, .int .i64 46] 154] [] (by kernel_rfl) (fun _ h => by cases h) ⟨rfl, rfl⟩
theorem op46 : OpIs 46 ⟨#[79, 80, 95, 68, 65, 84, 65, 95, 52, 54]⟩ 47 := fun w =>
  calls_reckoned (c := Tryz.f68.body.getD .skip) 20000 w Tryz.func68 (by kernel_rfl) 1028 Tryz.ntmps68 (by decide) 2 Tryz.results68 [] (.pointer (some ⟨w.heap.size, 0, none⟩)) [.cells #[.int .u8 46, .string ⟨#[79, 80, 95, 68, 65, 84, 65, 95, 52, 54]⟩, .int .i64 47] 154] [] (by kernel_rfl) (fun _ h => by cases h) ⟨rfl, rfl⟩
theorem op47 : OpIs 47 ⟨#[79, 80, 95, 68, 65, 84, 65, 95, 52, 55]⟩ 48 := fun w =>
  calls_reckoned (c := Tryz.f68.body.getD .skip) 20000 w Tryz.func68 (by kernel_rfl) 1028 Tryz.ntmps68 (by decide) 2 Tryz.results68 [] (.pointer (some ⟨w.heap.size, 0, none⟩)) [.cells #[.int .u8 47, .string ⟨#[79, 80, 95, 68, 65, 84, 65, 95, 52, 55]⟩, .int .i64 48] 154] [] (by kernel_rfl) (fun _ h => by cases h) ⟨rfl, rfl⟩
theorem op48 : OpIs 48 ⟨#[79, 80, 95, 68, 65, 84, 65, 95, 52, 56]⟩ 49 := fun w =>
  calls_reckoned (c := Tryz.f68.body.getD .skip) 20000 w Tryz.func68 (by kernel_rfl) 1028 Tryz.ntmps68 (by decide) 2 Tryz.results68 [] (.pointer (some ⟨w.heap.size, 0, none⟩)) [.cells #[.int .u8 48, .string ⟨#[79, 80, 95, 68, 65, 84, 65, 95, 52, 56]⟩, .int .i64 49] 154] [] (by kernel_rfl) (fun _ h => by cases h) ⟨rfl, rfl⟩
theorem op49 : OpIs 49 ⟨#[79, 80, 95, 68, 65, 84, 65, 95, 52, 57]⟩ 50 := fun w =>
  calls_reckoned (c := Tryz.f68.body.getD .skip) 20000 w Tryz.func68 (by kernel_rfl) 1028 Tryz.ntmps68 (by decide) 2 Tryz.results68 [] (.pointer (some ⟨w.heap.size, 0, none⟩)) [.cells #[.int .u8 49, .string ⟨#[79, 80, 95, 68, 65, 84, 65, 95, 52, 57]⟩, .int .i64 50] 154] [] (by kernel_rfl) (fun _ h => by cases h) ⟨rfl, rfl⟩
theorem op50 : OpIs 50 ⟨#[79, 80, 95, 68, 65, 84, 65, 95, 53, 48]⟩ 51 := fun w =>
  calls_reckoned (c := Tryz.f68.body.getD .skip) 20000 w Tryz.func68 (by kernel_rfl) 1028 Tryz.ntmps68 (by decide) 2 Tryz.results68 [] (.pointer (some ⟨w.heap.size, 0, none⟩)) [.cells #[.int .u8 50, .string ⟨#[79, 80, 95, 68, 65, 84, 65, 95, 53, 48]⟩, .int .i64 51] 154] [] (by kernel_rfl) (fun _ h => by cases h) ⟨rfl, rfl⟩
theorem op51 : OpIs 51 ⟨#[79, 80, 95, 68, 65, 84, 65, 95, 53, 49]⟩ 52 := fun w =>
  calls_reckoned (c := Tryz.f68.body.getD .skip) 20000 w Tryz.func68 (by kernel_rfl) 1028 Tryz.ntmps68 (by decide) 2 Tryz.results68 [] (.pointer (some ⟨w.heap.size, 0, none⟩)) [.cells #[.int .u8 51, .string ⟨#[79, 80, 95, 68, 65, 84, 65, 95, 53, 49]⟩, .int .i64 52] 154] [] (by kernel_rfl) (fun _ h => by cases h) ⟨rfl, rfl⟩
theorem op52 : OpIs 52 ⟨#[79, 80, 95, 68, 65, 84, 65, 95, 53, 50]⟩ 53 := fun w =>
  calls_reckoned (c := Tryz.f68.body.getD .skip) 20000 w Tryz.func68 (by kernel_rfl) 1028 Tryz.ntmps68 (by decide) 2 Tryz.results68 [] (.pointer (some ⟨w.heap.size, 0, none⟩)) [.cells #[.int .u8 52, .string ⟨#[79, 80, 95, 68, 65, 84, 65, 95, 53, 50]⟩, .int .i64 53] 154] [] (by kernel_rfl) (fun _ h => by cases h) ⟨rfl, rfl⟩
theorem op53 : OpIs 53 ⟨#[79, 80, 95, 68, 65, 84, 65, 95, 53, 51]⟩ 54 := fun w =>
  calls_reckoned (c := Tryz.f68.body.getD .skip) 20000 w Tryz.func68 (by kernel_rfl) 1028 Tryz.ntmps68 (by decide) 2 Tryz.results68 [] (.pointer (some ⟨w.heap.size, 0, none⟩)) [.cells #[.int .u8 53, .string ⟨#[79, 80, 95, 68, 65, 84, 65, 95, 53, 51]⟩, .int .i64 54] 154] [] (by kernel_rfl) (fun _ h => by cases h) ⟨rfl, rfl⟩
theorem op54 : OpIs 54 ⟨#[79, 80, 95, 68, 65, 84, 65, 95, 53, 52]⟩ 55 := fun w =>
  calls_reckoned (c := Tryz.f68.body.getD .skip) 20000 w Tryz.func68 (by kernel_rfl) 1028 Tryz.ntmps68 (by decide) 2 Tryz.results68 [] (.pointer (some ⟨w.heap.size, 0, none⟩)) [.cells #[.int .u8 54, .string ⟨#[79, 80, 95, 68, 65, 84, 65, 95, 53, 52]⟩, .int .i64 55] 154] [] (by kernel_rfl) (fun _ h => by cases h) ⟨rfl, rfl⟩
theorem op55 : OpIs 55 ⟨#[79, 80, 95, 68, 65, 84, 65, 95, 53, 53]⟩ 56 := fun w =>
  calls_reckoned (c := Tryz.f68.body.getD .skip) 20000 w Tryz.func68 (by kernel_rfl) 1028 Tryz.ntmps68 (by decide) 2 Tryz.results68 [] (.pointer (some ⟨w.heap.size, 0, none⟩)) [.cells #[.int .u8 55, .string ⟨#[79, 80, 95, 68, 65, 84, 65, 95, 53, 53]⟩, .int .i64 56] 154] [] (by kernel_rfl) (fun _ h => by cases h) ⟨rfl, rfl⟩
theorem op56 : OpIs 56 ⟨#[79, 80, 95, 68, 65, 84, 65, 95, 53, 54]⟩ 57 := fun w =>
  calls_reckoned (c := Tryz.f68.body.getD .skip) 20000 w Tryz.func68 (by kernel_rfl) 1028 Tryz.ntmps68 (by decide) 2 Tryz.results68 [] (.pointer (some ⟨w.heap.size, 0, none⟩)) [.cells #[.int .u8 56, .string ⟨#[79, 80, 95, 68, 65, 84, 65, 95, 53, 54]⟩, .int .i64 57] 154] [] (by kernel_rfl) (fun _ h => by cases h) ⟨rfl, rfl⟩
theorem op57 : OpIs 57 ⟨#[79, 80, 95, 68, 65, 84, 65, 95, 53, 55]⟩ 58 := fun w =>
  calls_reckoned (c := Tryz.f68.body.getD .skip) 20000 w Tryz.func68 (by kernel_rfl) 1028 Tryz.ntmps68 (by decide) 2 Tryz.results68 [] (.pointer (some ⟨w.heap.size, 0, none⟩)) [.cells #[.int .u8 57, .string ⟨#[79, 80, 95, 68, 65, 84, 65, 95, 53, 55]⟩, .int .i64 58] 154] [] (by kernel_rfl) (fun _ h => by cases h) ⟨rfl, rfl⟩
theorem op58 : OpIs 58 ⟨#[79, 80, 95, 68, 65, 84, 65, 95, 53, 56]⟩ 59 := fun w =>
  calls_reckoned (c := Tryz.f68.body.getD .skip) 20000 w Tryz.func68 (by kernel_rfl) 1028 Tryz.ntmps68 (by decide) 2 Tryz.results68 [] (.pointer (some ⟨w.heap.size, 0, none⟩)) [.cells #[.int .u8 58, .string ⟨#[79, 80, 95, 68, 65, 84, 65, 95, 53, 56]⟩, .int .i64 59] 154] [] (by kernel_rfl) (fun _ h => by cases h) ⟨rfl, rfl⟩
theorem op59 : OpIs 59 ⟨#[79, 80, 95, 68, 65, 84, 65, 95, 53, 57]⟩ 60 := fun w =>
  calls_reckoned (c := Tryz.f68.body.getD .skip) 20000 w Tryz.func68 (by kernel_rfl) 1028 Tryz.ntmps68 (by decide) 2 Tryz.results68 [] (.pointer (some ⟨w.heap.size, 0, none⟩)) [.cells #[.int .u8 59, .string ⟨#[79, 80, 95, 68, 65, 84, 65, 95, 53, 57]⟩, .int .i64 60] 154] [] (by kernel_rfl) (fun _ h => by cases h) ⟨rfl, rfl⟩
theorem op60 : OpIs 60 ⟨#[79, 80, 95, 68, 65, 84, 65, 95, 54, 48]⟩ 61 := fun w =>
  calls_reckoned (c := Tryz.f68.body.getD .skip) 20000 w Tryz.func68 (by kernel_rfl) 1028 Tryz.ntmps68 (by decide) 2 Tryz.results68 [] (.pointer (some ⟨w.heap.size, 0, none⟩)) [.cells #[.int .u8 60, .string ⟨#[79, 80, 95, 68, 65, 84, 65, 95, 54, 48]⟩, .int .i64 61] 154] [] (by kernel_rfl) (fun _ h => by cases h) ⟨rfl, rfl⟩
theorem op61 : OpIs 61 ⟨#[79, 80, 95, 68, 65, 84, 65, 95, 54, 49]⟩ 62 := fun w =>
  calls_reckoned (c := Tryz.f68.body.getD .skip) 20000 w Tryz.func68 (by kernel_rfl) 1028 Tryz.ntmps68 (by decide) 2 Tryz.results68 [] (.pointer (some ⟨w.heap.size, 0, none⟩)) [.cells #[.int .u8 61, .string ⟨#[79, 80, 95, 68, 65, 84, 65, 95, 54, 49]⟩, .int .i64 62] 154] [] (by kernel_rfl) (fun _ h => by cases h) ⟨rfl, rfl⟩
theorem op62 : OpIs 62 ⟨#[79, 80, 95, 68, 65, 84, 65, 95, 54, 50]⟩ 63 := fun w =>
  calls_reckoned (c := Tryz.f68.body.getD .skip) 20000 w Tryz.func68 (by kernel_rfl) 1028 Tryz.ntmps68 (by decide) 2 Tryz.results68 [] (.pointer (some ⟨w.heap.size, 0, none⟩)) [.cells #[.int .u8 62, .string ⟨#[79, 80, 95, 68, 65, 84, 65, 95, 54, 50]⟩, .int .i64 63] 154] [] (by kernel_rfl) (fun _ h => by cases h) ⟨rfl, rfl⟩
theorem op63 : OpIs 63 ⟨#[79, 80, 95, 68, 65, 84, 65, 95, 54, 51]⟩ 64 := fun w =>
  calls_reckoned (c := Tryz.f68.body.getD .skip) 20000 w Tryz.func68 (by kernel_rfl) 1028 Tryz.ntmps68 (by decide) 2 Tryz.results68 [] (.pointer (some ⟨w.heap.size, 0, none⟩)) [.cells #[.int .u8 63, .string ⟨#[79, 80, 95, 68, 65, 84, 65, 95, 54, 51]⟩, .int .i64 64] 154] [] (by kernel_rfl) (fun _ h => by cases h) ⟨rfl, rfl⟩
theorem op64 : OpIs 64 ⟨#[79, 80, 95, 68, 65, 84, 65, 95, 54, 52]⟩ 65 := fun w =>
  calls_reckoned (c := Tryz.f68.body.getD .skip) 20000 w Tryz.func68 (by kernel_rfl) 1028 Tryz.ntmps68 (by decide) 2 Tryz.results68 [] (.pointer (some ⟨w.heap.size, 0, none⟩)) [.cells #[.int .u8 64, .string ⟨#[79, 80, 95, 68, 65, 84, 65, 95, 54, 52]⟩, .int .i64 65] 154] [] (by kernel_rfl) (fun _ h => by cases h) ⟨rfl, rfl⟩
theorem op65 : OpIs 65 ⟨#[79, 80, 95, 68, 65, 84, 65, 95, 54, 53]⟩ 66 := fun w =>
  calls_reckoned (c := Tryz.f68.body.getD .skip) 20000 w Tryz.func68 (by kernel_rfl) 1028 Tryz.ntmps68 (by decide) 2 Tryz.results68 [] (.pointer (some ⟨w.heap.size, 0, none⟩)) [.cells #[.int .u8 65, .string ⟨#[79, 80, 95, 68, 65, 84, 65, 95, 54, 53]⟩, .int .i64 66] 154] [] (by kernel_rfl) (fun _ h => by cases h) ⟨rfl, rfl⟩
theorem op66 : OpIs 66 ⟨#[79, 80, 95, 68, 65, 84, 65, 95, 54, 54]⟩ 67 := fun w =>
  calls_reckoned (c := Tryz.f68.body.getD .skip) 20000 w Tryz.func68 (by kernel_rfl) 1028 Tryz.ntmps68 (by decide) 2 Tryz.results68 [] (.pointer (some ⟨w.heap.size, 0, none⟩)) [.cells #[.int .u8 66, .string ⟨#[79, 80, 95, 68, 65, 84, 65, 95, 54, 54]⟩, .int .i64 67] 154] [] (by kernel_rfl) (fun _ h => by cases h) ⟨rfl, rfl⟩
theorem op67 : OpIs 67 ⟨#[79, 80, 95, 68, 65, 84, 65, 95, 54, 55]⟩ 68 := fun w =>
  calls_reckoned (c := Tryz.f68.body.getD .skip) 20000 w Tryz.func68 (by kernel_rfl) 1028 Tryz.ntmps68 (by decide) 2 Tryz.results68 [] (.pointer (some ⟨w.heap.size, 0, none⟩)) [.cells #[.int .u8 67, .string ⟨#[79, 80, 95, 68, 65, 84, 65, 95, 54, 55]⟩, .int .i64 68] 154] [] (by kernel_rfl) (fun _ h => by cases h) ⟨rfl, rfl⟩
theorem op68 : OpIs 68 ⟨#[79, 80, 95, 68, 65, 84, 65, 95, 54, 56]⟩ 69 := fun w =>
  calls_reckoned (c := Tryz.f68.body.getD .skip) 20000 w Tryz.func68 (by kernel_rfl) 1028 Tryz.ntmps68 (by decide) 2 Tryz.results68 [] (.pointer (some ⟨w.heap.size, 0, none⟩)) [.cells #[.int .u8 68, .string ⟨#[79, 80, 95, 68, 65, 84, 65, 95, 54, 56]⟩, .int .i64 69] 154] [] (by kernel_rfl) (fun _ h => by cases h) ⟨rfl, rfl⟩
theorem op69 : OpIs 69 ⟨#[79, 80, 95, 68, 65, 84, 65, 95, 54, 57]⟩ 70 := fun w =>
  calls_reckoned (c := Tryz.f68.body.getD .skip) 20000 w Tryz.func68 (by kernel_rfl) 1028 Tryz.ntmps68 (by decide) 2 Tryz.results68 [] (.pointer (some ⟨w.heap.size, 0, none⟩)) [.cells #[.int .u8 69, .string ⟨#[79, 80, 95, 68, 65, 84, 65, 95, 54, 57]⟩, .int .i64 70] 154] [] (by kernel_rfl) (fun _ h => by cases h) ⟨rfl, rfl⟩
theorem op70 : OpIs 70 ⟨#[79, 80, 95, 68, 65, 84, 65, 95, 55, 48]⟩ 71 := fun w =>
  calls_reckoned (c := Tryz.f68.body.getD .skip) 20000 w Tryz.func68 (by kernel_rfl) 1028 Tryz.ntmps68 (by decide) 2 Tryz.results68 [] (.pointer (some ⟨w.heap.size, 0, none⟩)) [.cells #[.int .u8 70, .string ⟨#[79, 80, 95, 68, 65, 84, 65, 95, 55, 48]⟩, .int .i64 71] 154] [] (by kernel_rfl) (fun _ h => by cases h) ⟨rfl, rfl⟩
theorem op71 : OpIs 71 ⟨#[79, 80, 95, 68, 65, 84, 65, 95, 55, 49]⟩ 72 := fun w =>
  calls_reckoned (c := Tryz.f68.body.getD .skip) 20000 w Tryz.func68 (by kernel_rfl) 1028 Tryz.ntmps68 (by decide) 2 Tryz.results68 [] (.pointer (some ⟨w.heap.size, 0, none⟩)) [.cells #[.int .u8 71, .string ⟨#[79, 80, 95, 68, 65, 84, 65, 95, 55, 49]⟩, .int .i64 72] 154] [] (by kernel_rfl) (fun _ h => by cases h) ⟨rfl, rfl⟩
theorem op72 : OpIs 72 ⟨#[79, 80, 95, 68, 65, 84, 65, 95, 55, 50]⟩ 73 := fun w =>
  calls_reckoned (c := Tryz.f68.body.getD .skip) 20000 w Tryz.func68 (by kernel_rfl) 1028 Tryz.ntmps68 (by decide) 2 Tryz.results68 [] (.pointer (some ⟨w.heap.size, 0, none⟩)) [.cells #[.int .u8 72, .string ⟨#[79, 80, 95, 68, 65, 84, 65, 95, 55, 50]⟩, .int .i64 73] 154] [] (by kernel_rfl) (fun _ h => by cases h) ⟨rfl, rfl⟩
theorem op73 : OpIs 73 ⟨#[79, 80, 95, 68, 65, 84, 65, 95, 55, 51]⟩ 74 := fun w =>
  calls_reckoned (c := Tryz.f68.body.getD .skip) 20000 w Tryz.func68 (by kernel_rfl) 1028 Tryz.ntmps68 (by decide) 2 Tryz.results68 [] (.pointer (some ⟨w.heap.size, 0, none⟩)) [.cells #[.int .u8 73, .string ⟨#[79, 80, 95, 68, 65, 84, 65, 95, 55, 51]⟩, .int .i64 74] 154] [] (by kernel_rfl) (fun _ h => by cases h) ⟨rfl, rfl⟩
theorem op74 : OpIs 74 ⟨#[79, 80, 95, 68, 65, 84, 65, 95, 55, 52]⟩ 75 := fun w =>
  calls_reckoned (c := Tryz.f68.body.getD .skip) 20000 w Tryz.func68 (by kernel_rfl) 1028 Tryz.ntmps68 (by decide) 2 Tryz.results68 [] (.pointer (some ⟨w.heap.size, 0, none⟩)) [.cells #[.int .u8 74, .string ⟨#[79, 80, 95, 68, 65, 84, 65, 95, 55, 52]⟩, .int .i64 75] 154] [] (by kernel_rfl) (fun _ h => by cases h) ⟨rfl, rfl⟩
theorem op75 : OpIs 75 ⟨#[79, 80, 95, 68, 65, 84, 65, 95, 55, 53]⟩ 76 := fun w =>
  calls_reckoned (c := Tryz.f68.body.getD .skip) 20000 w Tryz.func68 (by kernel_rfl) 1028 Tryz.ntmps68 (by decide) 2 Tryz.results68 [] (.pointer (some ⟨w.heap.size, 0, none⟩)) [.cells #[.int .u8 75, .string ⟨#[79, 80, 95, 68, 65, 84, 65, 95, 55, 53]⟩, .int .i64 76] 154] [] (by kernel_rfl) (fun _ h => by cases h) ⟨rfl, rfl⟩
theorem op76 : OpIs 76 ⟨#[79, 80, 95, 80, 85, 83, 72, 68, 65, 84, 65, 49]⟩ (-1) := fun w =>
  calls_reckoned (c := Tryz.f68.body.getD .skip) 20000 w Tryz.func68 (by kernel_rfl) 1028 Tryz.ntmps68 (by decide) 2 Tryz.results68 [] (.pointer (some ⟨w.heap.size, 0, none⟩)) [.cells #[.int .u8 76, .string ⟨#[79, 80, 95, 80, 85, 83, 72, 68, 65, 84, 65, 49]⟩, .int .i64 (-1)] 154] [] (by kernel_rfl) (fun _ h => by cases h) ⟨rfl, rfl⟩
theorem op77 : OpIs 77 ⟨#[79, 80, 95, 80, 85, 83, 72, 68, 65, 84, 65, 50]⟩ (-2) := fun w =>
  calls_reckoned (c := Tryz.f68.body.getD .skip) 20000 w Tryz.func68 (by kernel_rfl) 1028 Tryz.ntmps68 (by decide) 2 Tryz.results68 [] (.pointer (some ⟨w.heap.size, 0, none⟩)) [.cells #[.int .u8 77, .string ⟨#[79, 80, 95, 80, 85, 83, 72, 68, 65, 84, 65, 50]⟩, .int .i64 (-2)] 154] [] (by kernel_rfl) (fun _ h => by cases h) ⟨rfl, rfl⟩
theorem op78 : OpIs 78 ⟨#[79, 80, 95, 80, 85, 83, 72, 68, 65, 84, 65, 52]⟩ (-4) := fun w =>
  calls_reckoned (c := Tryz.f68.body.getD .skip) 20000 w Tryz.func68 (by kernel_rfl) 1028 Tryz.ntmps68 (by decide) 2 Tryz.results68 [] (.pointer (some ⟨w.heap.size, 0, none⟩)) [.cells #[.int .u8 78, .string ⟨#[79, 80, 95, 80, 85, 83, 72, 68, 65, 84, 65, 52]⟩, .int .i64 (-4)] 154] [] (by kernel_rfl) (fun _ h => by cases h) ⟨rfl, rfl⟩
theorem op79 : OpIs 79 ⟨#[79, 80, 95, 49, 78, 69, 71, 65, 84, 69]⟩ 1 := fun w =>
  calls_reckoned (c := Tryz.f68.body.getD .skip) 20000 w Tryz.func68 (by kernel_rfl) 1028 Tryz.ntmps68 (by decide) 2 Tryz.results68 [] (.pointer (some ⟨w.heap.size, 0, none⟩)) [.cells #[.int .u8 79, .string ⟨#[79, 80, 95, 49, 78, 69, 71, 65, 84, 69]⟩, .int .i64 1] 154] [] (by kernel_rfl) (fun _ h => by cases h) ⟨rfl, rfl⟩
theorem op81 : OpIs 81 ⟨#[79, 80, 95, 49]⟩ 1 := fun w =>
  calls_reckoned (c := Tryz.f68.body.getD .skip) 20000 w Tryz.func68 (by kernel_rfl) 1028 Tryz.ntmps68 (by decide) 2 Tryz.results68 [] (.pointer (some ⟨w.heap.size, 0, none⟩)) [.cells #[.int .u8 81, .string ⟨#[79, 80, 95, 49]⟩, .int .i64 1] 154] [] (by kernel_rfl) (fun _ h => by cases h) ⟨rfl, rfl⟩
theorem op82 : OpIs 82 ⟨#[79, 80, 95, 50]⟩ 1 := fun w =>
  calls_reckoned (c := Tryz.f68.body.getD .skip) 20000 w Tryz.func68 (by kernel_rfl) 1028 Tryz.ntmps68 (by decide) 2 Tryz.results68 [] (.pointer (some ⟨w.heap.size, 0, none⟩)) [.cells #[.int .u8 82, .string ⟨#[79, 80, 95, 50]⟩, .int .i64 1] 154] [] (by kernel_rfl) (fun _ h => by cases h) ⟨rfl, rfl⟩
theorem op83 : OpIs 83 ⟨#[79, 80, 95, 51]⟩ 1 := fun w =>
  calls_reckoned (c := Tryz.f68.body.getD .skip) 20000 w Tryz.func68 (by kernel_rfl) 1028 Tryz.ntmps68 (by decide) 2 Tryz.results68 [] (.pointer (some ⟨w.heap.size, 0, none⟩)) [.cells #[.int .u8 83, .string ⟨#[79, 80, 95, 51]⟩, .int .i64 1] 154] [] (by kernel_rfl) (fun _ h => by cases h) ⟨rfl, rfl⟩
theorem op84 : OpIs 84 ⟨#[79, 80, 95, 52]⟩ 1 := fun w =>
  calls_reckoned (c := Tryz.f68.body.getD .skip) 20000 w Tryz.func68 (by kernel_rfl) 1028 Tryz.ntmps68 (by decide) 2 Tryz.results68 [] (.pointer (some ⟨w.heap.size, 0, none⟩)) [.cells #[.int .u8 84, .string ⟨#[79, 80, 95, 52]⟩, .int .i64 1] 154] [] (by kernel_rfl) (fun _ h => by cases h) ⟨rfl, rfl⟩
theorem op85 : OpIs 85 ⟨#[79, 80, 95, 53]⟩ 1 := fun w =>
  calls_reckoned (c := Tryz.f68.body.getD .skip) 20000 w Tryz.func68 (by kernel_rfl) 1028 Tryz.ntmps68 (by decide) 2 Tryz.results68 [] (.pointer (some ⟨w.heap.size, 0, none⟩)) [.cells #[.int .u8 85, .string ⟨#[79, 80, 95, 53]⟩, .int .i64 1] 154] [] (by kernel_rfl) (fun _ h => by cases h) ⟨rfl, rfl⟩
theorem op86 : OpIs 86 ⟨#[79, 80, 95, 54]⟩ 1 := fun w =>
  calls_reckoned (c := Tryz.f68.body.getD .skip) 20000 w Tryz.func68 (by kernel_rfl) 1028 Tryz.ntmps68 (by decide) 2 Tryz.results68 [] (.pointer (some ⟨w.heap.size, 0, none⟩)) [.cells #[.int .u8 86, .string ⟨#[79, 80, 95, 54]⟩, .int .i64 1] 154] [] (by kernel_rfl) (fun _ h => by cases h) ⟨rfl, rfl⟩
theorem op87 : OpIs 87 ⟨#[79, 80, 95, 55]⟩ 1 := fun w =>
  calls_reckoned (c := Tryz.f68.body.getD .skip) 20000 w Tryz.func68 (by kernel_rfl) 1028 Tryz.ntmps68 (by decide) 2 Tryz.results68 [] (.pointer (some ⟨w.heap.size, 0, none⟩)) [.cells #[.int .u8 87, .string ⟨#[79, 80, 95, 55]⟩, .int .i64 1] 154] [] (by kernel_rfl) (fun _ h => by cases h) ⟨rfl, rfl⟩
theorem op88 : OpIs 88 ⟨#[79, 80, 95, 56]⟩ 1 := fun w =>
  calls_reckoned (c := Tryz.f68.body.getD .skip) 20000 w Tryz.func68 (by kernel_rfl) 1028 Tryz.ntmps68 (by decide) 2 Tryz.results68 [] (.pointer (some ⟨w.heap.size, 0, none⟩)) [.cells #[.int .u8 88, .string ⟨#[79, 80, 95, 56]⟩, .int .i64 1] 154] [] (by kernel_rfl) (fun _ h => by cases h) ⟨rfl, rfl⟩
theorem op89 : OpIs 89 ⟨#[79, 80, 95, 57]⟩ 1 := fun w =>
  calls_reckoned (c := Tryz.f68.body.getD .skip) 20000 w Tryz.func68 (by kernel_rfl) 1028 Tryz.ntmps68 (by decide) 2 Tryz.results68 [] (.pointer (some ⟨w.heap.size, 0, none⟩)) [.cells #[.int .u8 89, .string ⟨#[79, 80, 95, 57]⟩, .int .i64 1] 154] [] (by kernel_rfl) (fun _ h => by cases h) ⟨rfl, rfl⟩
theorem op90 : OpIs 90 ⟨#[79, 80, 95, 49, 48]⟩ 1 := fun w =>
  calls_reckoned (c := Tryz.f68.body.getD .skip) 20000 w Tryz.func68 (by kernel_rfl) 1028 Tryz.ntmps68 (by decide) 2 Tryz.results68 [] (.pointer (some ⟨w.heap.size, 0, none⟩)) [.cells #[.int .u8 90, .string ⟨#[79, 80, 95, 49, 48]⟩, .int .i64 1] 154] [] (by kernel_rfl) (fun _ h => by cases h) ⟨rfl, rfl⟩
theorem op91 : OpIs 91 ⟨#[79, 80, 95, 49, 49]⟩ 1 := fun w =>
  calls_reckoned (c := Tryz.f68.body.getD .skip) 20000 w Tryz.func68 (by kernel_rfl) 1028 Tryz.ntmps68 (by decide) 2 Tryz.results68 [] (.pointer (some ⟨w.heap.size, 0, none⟩)) [.cells #[.int .u8 91, .string ⟨#[79, 80, 95, 49, 49]⟩, .int .i64 1] 154] [] (by kernel_rfl) (fun _ h => by cases h) ⟨rfl, rfl⟩
theorem op92 : OpIs 92 ⟨#[79, 80, 95, 49, 50]⟩ 1 := fun w =>
  calls_reckoned (c := Tryz.f68.body.getD .skip) 20000 w Tryz.func68 (by kernel_rfl) 1028 Tryz.ntmps68 (by decide) 2 Tryz.results68 [] (.pointer (some ⟨w.heap.size, 0, none⟩)) [.cells #[.int .u8 92, .string ⟨#[79, 80, 95, 49, 50]⟩, .int .i64 1] 154] [] (by kernel_rfl) (fun _ h => by cases h) ⟨rfl, rfl⟩
theorem op93 : OpIs 93 ⟨#[79, 80, 95, 49, 51]⟩ 1 := fun w =>
  calls_reckoned (c := Tryz.f68.body.getD .skip) 20000 w Tryz.func68 (by kernel_rfl) 1028 Tryz.ntmps68 (by decide) 2 Tryz.results68 [] (.pointer (some ⟨w.heap.size, 0, none⟩)) [.cells #[.int .u8 93, .string ⟨#[79, 80, 95, 49, 51]⟩, .int .i64 1] 154] [] (by kernel_rfl) (fun _ h => by cases h) ⟨rfl, rfl⟩
theorem op94 : OpIs 94 ⟨#[79, 80, 95, 49, 52]⟩ 1 := fun w =>
  calls_reckoned (c := Tryz.f68.body.getD .skip) 20000 w Tryz.func68 (by kernel_rfl) 1028 Tryz.ntmps68 (by decide) 2 Tryz.results68 [] (.pointer (some ⟨w.heap.size, 0, none⟩)) [.cells #[.int .u8 94, .string ⟨#[79, 80, 95, 49, 52]⟩, .int .i64 1] 154] [] (by kernel_rfl) (fun _ h => by cases h) ⟨rfl, rfl⟩
theorem op95 : OpIs 95 ⟨#[79, 80, 95, 49, 53]⟩ 1 := fun w =>
  calls_reckoned (c := Tryz.f68.body.getD .skip) 20000 w Tryz.func68 (by kernel_rfl) 1028 Tryz.ntmps68 (by decide) 2 Tryz.results68 [] (.pointer (some ⟨w.heap.size, 0, none⟩)) [.cells #[.int .u8 95, .string ⟨#[79, 80, 95, 49, 53]⟩, .int .i64 1] 154] [] (by kernel_rfl) (fun _ h => by cases h) ⟨rfl, rfl⟩
theorem op96 : OpIs 96 ⟨#[79, 80, 95, 49, 54]⟩ 1 := fun w =>
  calls_reckoned (c := Tryz.f68.body.getD .skip) 20000 w Tryz.func68 (by kernel_rfl) 1028 Tryz.ntmps68 (by decide) 2 Tryz.results68 [] (.pointer (some ⟨w.heap.size, 0, none⟩)) [.cells #[.int .u8 96, .string ⟨#[79, 80, 95, 49, 54]⟩, .int .i64 1] 154] [] (by kernel_rfl) (fun _ h => by cases h) ⟨rfl, rfl⟩
theorem op117 : OpIs 117 ⟨#[79, 80, 95, 68, 82, 79, 80]⟩ 1 := fun w =>
  calls_reckoned (c := Tryz.f68.body.getD .skip) 20000 w Tryz.func68 (by kernel_rfl) 1028 Tryz.ntmps68 (by decide) 2 Tryz.results68 [] (.pointer (some ⟨w.heap.size, 0, none⟩)) [.cells #[.int .u8 117, .string ⟨#[79, 80, 95, 68, 82, 79, 80]⟩, .int .i64 1] 154] [] (by kernel_rfl) (fun _ h => by cases h) ⟨rfl, rfl⟩
theorem op118 : OpIs 118 ⟨#[79, 80, 95, 68, 85, 80]⟩ 1 := fun w =>
  calls_reckoned (c := Tryz.f68.body.getD .skip) 20000 w Tryz.func68 (by kernel_rfl) 1028 Tryz.ntmps68 (by decide) 2 Tryz.results68 [] (.pointer (some ⟨w.heap.size, 0, none⟩)) [.cells #[.int .u8 118, .string ⟨#[79, 80, 95, 68, 85, 80]⟩, .int .i64 1] 154] [] (by kernel_rfl) (fun _ h => by cases h) ⟨rfl, rfl⟩
theorem op136 : OpIs 136 ⟨#[79, 80, 95, 69, 81, 85, 65, 76, 86, 69, 82, 73, 70, 89]⟩ 1 := fun w =>
  calls_reckoned (c := Tryz.f68.body.getD .skip) 20000 w Tryz.func68 (by kernel_rfl) 1028 Tryz.ntmps68 (by decide) 2 Tryz.results68 [] (.pointer (some ⟨w.heap.size, 0, none⟩)) [.cells #[.int .u8 136, .string ⟨#[79, 80, 95, 69, 81, 85, 65, 76, 86, 69, 82, 73, 70, 89]⟩, .int .i64 1] 154] [] (by kernel_rfl) (fun _ h => by cases h) ⟨rfl, rfl⟩
theorem op169 : OpIs 169 ⟨#[79, 80, 95, 72, 65, 83, 72, 49, 54, 48]⟩ 1 := fun w =>
  calls_reckoned (c := Tryz.f68.body.getD .skip) 20000 w Tryz.func68 (by kernel_rfl) 1028 Tryz.ntmps68 (by decide) 2 Tryz.results68 [] (.pointer (some ⟨w.heap.size, 0, none⟩)) [.cells #[.int .u8 169, .string ⟨#[79, 80, 95, 72, 65, 83, 72, 49, 54, 48]⟩, .int .i64 1] 154] [] (by kernel_rfl) (fun _ h => by cases h) ⟨rfl, rfl⟩
theorem op172 : OpIs 172 ⟨#[79, 80, 95, 67, 72, 69, 67, 75, 83, 73, 71]⟩ 1 := fun w =>
  calls_reckoned (c := Tryz.f68.body.getD .skip) 20000 w Tryz.func68 (by kernel_rfl) 1028 Tryz.ntmps68 (by decide) 2 Tryz.results68 [] (.pointer (some ⟨w.heap.size, 0, none⟩)) [.cells #[.int .u8 172, .string ⟨#[79, 80, 95, 67, 72, 69, 67, 75, 83, 73, 71]⟩, .int .i64 1] 154] [] (by kernel_rfl) (fun _ h => by cases h) ⟨rfl, rfl⟩
theorem op177 : OpIs 177 ⟨#[79, 80, 95, 67, 72, 69, 67, 75, 76, 79, 67, 75, 84, 73, 77, 69, 86, 69, 82, 73, 70, 89]⟩ 1 := fun w =>
  calls_reckoned (c := Tryz.f68.body.getD .skip) 20000 w Tryz.func68 (by kernel_rfl) 1028 Tryz.ntmps68 (by decide) 2 Tryz.results68 [] (.pointer (some ⟨w.heap.size, 0, none⟩)) [.cells #[.int .u8 177, .string ⟨#[79, 80, 95, 67, 72, 69, 67, 75, 76, 79, 67, 75, 84, 73, 77, 69, 86, 69, 82, 73, 70, 89]⟩, .int .i64 1] 154] [] (by kernel_rfl) (fun _ h => by cases h) ⟨rfl, rfl⟩

theorem op_data_a (v : Nat) (h1 : 1 ≤ v) (h2 : v ≤ 25) : ∃ nm, OpIs v nm (v + 1) := by
  rcases (show v = 1 ∨ v = 2 ∨ v = 3 ∨ v = 4 ∨ v = 5 ∨ v = 6 ∨ v = 7 ∨ v = 8 ∨ v = 9 ∨ v = 10 ∨ v = 11 ∨ v = 12 ∨ v = 13 ∨ v = 14 ∨ v = 15 ∨ v = 16 ∨ v = 17 ∨ v = 18 ∨ v = 19 ∨ v = 20 ∨ v = 21 ∨ v = 22 ∨ v = 23 ∨ v = 24 ∨ v = 25 by omega) with rfl | rfl | rfl | rfl | rfl | rfl | rfl | rfl | rfl | rfl | rfl | rfl | rfl | rfl | rfl | rfl | rfl | rfl | rfl | rfl | rfl | rfl | rfl | rfl | rfl
  · exact ⟨_, op1⟩
  · exact ⟨_, op2⟩
  · exact ⟨_, op3⟩
  · exact ⟨_, op4⟩
  · exact ⟨_, op5⟩
  · exact ⟨_, op6⟩
  · exact ⟨_, op7⟩
  · exact ⟨_, op8⟩
  · exact ⟨_, op9⟩
  · exact ⟨_, op10⟩
  · exact ⟨_, op11⟩
  · exact ⟨_, op12⟩
  · exact ⟨_, op13⟩
  · exact ⟨_, op14⟩
  · exact ⟨_, op15⟩
  · exact ⟨_, op16⟩
  · exact ⟨_, op17⟩
  · exact ⟨_, op18⟩
  · exact ⟨_, op19⟩
  · exact ⟨_, op20⟩
  · exact ⟨_, op21⟩
  · exact ⟨_, op22⟩
  · exact ⟨_, op23⟩
  · exact ⟨_, op24⟩
  · exact ⟨_, op25⟩
theorem op_data_b (v : Nat) (h1 : 26 ≤ v) (h2 : v ≤ 50) : ∃ nm, OpIs v nm (v + 1) := by
  rcases (show v = 26 ∨ v = 27 ∨ v = 28 ∨ v = 29 ∨ v = 30 ∨ v = 31 ∨ v = 32 ∨ v = 33 ∨ v = 34 ∨ v = 35 ∨ v = 36 ∨ v = 37 ∨ v = 38 ∨ v = 39 ∨ v = 40 ∨ v = 41 ∨ v = 42 ∨ v = 43 ∨ v = 44 ∨ v = 45 ∨ v = 46 ∨ v = 47 ∨ v = 48 ∨ v = 49 ∨ v = 50 by omega) with rfl | rfl | rfl | rfl | rfl | rfl | rfl | rfl | rfl | rfl | rfl | rfl | rfl | rfl | rfl | rfl | rfl | rfl | rfl | rfl | rfl | rfl | rfl | rfl | rfl
  · exact ⟨_, op26⟩
  · exact ⟨_, op27⟩
  · exact ⟨_, op28⟩
  · exact ⟨_, op29⟩
  · exact ⟨_, op30⟩
  · exact ⟨_, op31⟩
  · exact ⟨_, op32⟩
  · exact ⟨_, op33⟩
  · exact ⟨_, op34⟩
  · exact ⟨_, op35⟩
  · exact ⟨_, op36⟩
  · exact ⟨_, op37⟩
  · exact ⟨_, op38⟩
  · exact ⟨_, op39⟩
  · exact ⟨_, op40⟩
  · exact ⟨_, op41⟩
  · exact ⟨_, op42⟩
  · exact ⟨_, op43⟩
  · exact ⟨_, op44⟩
  · exact ⟨_, op45⟩
  · exact ⟨_, op46⟩
  · exact ⟨_, op47⟩
  · exact ⟨_, op48⟩
  · exact ⟨_, op49⟩
  · exact ⟨_, op50⟩
theorem op_data_c (v : Nat) (h1 : 51 ≤ v) (h2 : v ≤ 75) : ∃ nm, OpIs v nm (v + 1) := by
  rcases (show v = 51 ∨ v = 52 ∨ v = 53 ∨ v = 54 ∨ v = 55 ∨ v = 56 ∨ v = 57 ∨ v = 58 ∨ v = 59 ∨ v = 60 ∨ v = 61 ∨ v = 62 ∨ v = 63 ∨ v = 64 ∨ v = 65 ∨ v = 66 ∨ v = 67 ∨ v = 68 ∨ v = 69 ∨ v = 70 ∨ v = 71 ∨ v = 72 ∨ v = 73 ∨ v = 74 ∨ v = 75 by omega) with rfl | rfl | rfl | rfl | rfl | rfl | rfl | rfl | rfl | rfl | rfl | rfl | rfl | rfl | rfl | rfl | rfl | rfl | rfl | rfl | rfl | rfl | rfl | rfl | rfl
  · exact ⟨_, op51⟩
  · exact ⟨_, op52⟩
  · exact ⟨_, op53⟩
  · exact ⟨_, op54⟩
  · exact ⟨_, op55⟩
  · exact ⟨_, op56⟩
  · exact ⟨_, op57⟩
  · exact ⟨_, op58⟩
  · exact ⟨_, op59⟩
  · exact ⟨_, op60⟩
  · exact ⟨_, op61⟩
  · exact ⟨_, op62⟩
  · exact ⟨_, op63⟩
  · exact ⟨_, op64⟩
  · exact ⟨_, op65⟩
  · exact ⟨_, op66⟩
  · exact ⟨_, op67⟩
  · exact ⟨_, op68⟩
  · exact ⟨_, op69⟩
  · exact ⟨_, op70⟩
  · exact ⟨_, op71⟩
  · exact ⟨_, op72⟩
  · exact ⟨_, op73⟩
  · exact ⟨_, op74⟩
  · exact ⟨_, op75⟩
theorem op_data (v : Nat) (h1 : 1 ≤ v) (h2 : v ≤ 75) : ∃ nm, OpIs v nm (v + 1) := by
  by_cases ha : v ≤ 25
  · exact op_data_a v h1 ha
  · by_cases hb : v ≤ 50
    · exact op_data_b v (by omega) hb
    · exact op_data_c v (by omega) h2
theorem op_n (v : Nat) (h1 : 81 ≤ v) (h2 : v ≤ 96) : ∃ nm, OpIs v nm 1 := by
  rcases (show v = 81 ∨ v = 82 ∨ v = 83 ∨ v = 84 ∨ v = 85 ∨ v = 86 ∨ v = 87 ∨ v = 88 ∨ v = 89 ∨ v = 90 ∨ v = 91 ∨ v = 92 ∨ v = 93 ∨ v = 94 ∨ v = 95 ∨ v = 96 by omega) with rfl | rfl | rfl | rfl | rfl | rfl | rfl | rfl | rfl | rfl | rfl | rfl | rfl | rfl | rfl | rfl
  · exact ⟨_, op81⟩
  · exact ⟨_, op82⟩
  · exact ⟨_, op83⟩
  · exact ⟨_, op84⟩
  · exact ⟨_, op85⟩
  · exact ⟨_, op86⟩
  · exact ⟨_, op87⟩
  · exact ⟨_, op88⟩
  · exact ⟨_, op89⟩
  · exact ⟨_, op90⟩
  · exact ⟨_, op91⟩
  · exact ⟨_, op92⟩
  · exact ⟨_, op93⟩
  · exact ⟨_, op94⟩
  · exact ⟨_, op95⟩
  · exact ⟨_, op96⟩
end Go.Proofs.YtkgihpebghmnbaaGreatDoor
