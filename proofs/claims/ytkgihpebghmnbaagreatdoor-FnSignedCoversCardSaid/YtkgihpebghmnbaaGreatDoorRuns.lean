/- To which function opcodeRun goes at each opcode that the walks meet: by reckoning. -/
import Derived.Test.YtkgihpebghmnbaaGreatDoorG03
import Derived.Test.YtkgihpebghmnbaaGreatDoorProg
namespace Go.Proofs.YtkgihpebghmnbaaGreatDoor
open Go.RowKit Go.Proofs

/-- opcodeRun at an opcode is the call of a function. -/
def RunsTo (v : Nat) (f : FuncId) : Prop :=
  ∀ (w : World) (ob : Nat) (data vm : Value) (R : Ending → World → Prop), w.cell? ⟨ob, 0, none⟩ = some (.int .u8 v) → Calls Tryz.prog f #[.pointer (some ⟨ob, 0, none⟩), data, vm] w R →
    Calls Tryz.prog 88 #[.pointer (some ⟨ob, 0, none⟩), data, vm] w R

theorem holds_one {w : World} {a : Addr} {v : Value} (h : w.cell? a = some v) : Holds w [(a, v)] := fun x hx => by
  rcases List.mem_cons.1 hx with rfl | hx
  · exact h
  · cases hx

theorem runs0 : RunsTo 0 106 := fun w ob data vm R hc h =>
  calls_tail (c := Tryz.f88.body.getD .skip) 20000 w Tryz.func88 (by kernel_rfl) 612 Tryz.ntmps88 (show 3 ≤ 612 by omega) 6 Tryz.results88 [.int .u8 0] 106 #[.pointer (some ⟨ob, 0, none⟩), data, vm] [(⟨ob, 0, none⟩, .int .u8 0)] (by kernel_rfl) (fun v n => by kernel_rfl) (holds_one hc) h
theorem runs1 : RunsTo 1 107 := fun w ob data vm R hc h =>
  calls_tail (c := Tryz.f88.body.getD .skip) 20000 w Tryz.func88 (by kernel_rfl) 612 Tryz.ntmps88 (show 3 ≤ 612 by omega) 6 Tryz.results88 [.int .u8 1] 107 #[.pointer (some ⟨ob, 0, none⟩), data, vm] [(⟨ob, 0, none⟩, .int .u8 1)] (by kernel_rfl) (fun v n => by kernel_rfl) (holds_one hc) h
theorem runs2 : RunsTo 2 107 := fun w ob data vm R hc h =>
  calls_tail (c := Tryz.f88.body.getD .skip) 20000 w Tryz.func88 (by kernel_rfl) 612 Tryz.ntmps88 (show 3 ≤ 612 by omega) 6 Tryz.results88 [.int .u8 2] 107 #[.pointer (some ⟨ob, 0, none⟩), data, vm] [(⟨ob, 0, none⟩, .int .u8 2)] (by kernel_rfl) (fun v n => by kernel_rfl) (holds_one hc) h
theorem runs3 : RunsTo 3 107 := fun w ob data vm R hc h =>
  calls_tail (c := Tryz.f88.body.getD .skip) 20000 w Tryz.func88 (by kernel_rfl) 612 Tryz.ntmps88 (show 3 ≤ 612 by omega) 6 Tryz.results88 [.int .u8 3] 107 #[.pointer (some ⟨ob, 0, none⟩), data, vm] [(⟨ob, 0, none⟩, .int .u8 3)] (by kernel_rfl) (fun v n => by kernel_rfl) (holds_one hc) h
theorem runs4 : RunsTo 4 107 := fun w ob data vm R hc h =>
  calls_tail (c := Tryz.f88.body.getD .skip) 20000 w Tryz.func88 (by kernel_rfl) 612 Tryz.ntmps88 (show 3 ≤ 612 by omega) 6 Tryz.results88 [.int .u8 4] 107 #[.pointer (some ⟨ob, 0, none⟩), data, vm] [(⟨ob, 0, none⟩, .int .u8 4)] (by kernel_rfl) (fun v n => by kernel_rfl) (holds_one hc) h
theorem runs5 : RunsTo 5 107 := fun w ob data vm R hc h =>
  calls_tail (c := Tryz.f88.body.getD .skip) 20000 w Tryz.func88 (by kernel_rfl) 612 Tryz.ntmps88 (show 3 ≤ 612 by omega) 6 Tryz.results88 [.int .u8 5] 107 #[.pointer (some ⟨ob, 0, none⟩), data, vm] [(⟨ob, 0, none⟩, .int .u8 5)] (by kernel_rfl) (fun v n => by kernel_rfl) (holds_one hc) h
theorem runs6 : RunsTo 6 107 := fun w ob data vm R hc h =>
  calls_tail (c := Tryz.f88.body.getD .skip) 20000 w Tryz.func88 (by kernel_rfl) 612 Tryz.ntmps88 (show 3 ≤ 612 by omega) 6 Tryz.results88 [.int .u8 6] 107 #[.pointer (some ⟨ob, 0, none⟩), data, vm] [(⟨ob, 0, none⟩, .int .u8 6)] (by kernel_rfl) (fun v n => by kernel_rfl) (holds_one hc) h
theorem runs7 : RunsTo 7 107 := fun w ob data vm R hc h =>
  calls_tail (c := Tryz.f88.body.getD .skip) 20000 w Tryz.func88 (by kernel_rfl) 612 Tryz.ntmps88 (show 3 ≤ 612 by omega) 6 Tryz.results88 [.int .u8 7] 107 #[.pointer (some ⟨ob, 0, none⟩), data, vm] [(⟨ob, 0, none⟩, .int .u8 7)] (by kernel_rfl) (fun v n => by kernel_rfl) (holds_one hc) h
theorem runs8 : RunsTo 8 107 := fun w ob data vm R hc h =>
  calls_tail (c := Tryz.f88.body.getD .skip) 20000 w Tryz.func88 (by kernel_rfl) 612 Tryz.ntmps88 (show 3 ≤ 612 by omega) 6 Tryz.results88 [.int .u8 8] 107 #[.pointer (some ⟨ob, 0, none⟩), data, vm] [(⟨ob, 0, none⟩, .int .u8 8)] (by kernel_rfl) (fun v n => by kernel_rfl) (holds_one hc) h
theorem runs9 : RunsTo 9 107 := fun w ob data vm R hc h =>
  calls_tail (c := Tryz.f88.body.getD .skip) 20000 w Tryz.func88 (by kernel_rfl) 612 Tryz.ntmps88 (show 3 ≤ 612 by omega) 6 Tryz.results88 [.int .u8 9] 107 #[.pointer (some ⟨ob, 0, none⟩), data, vm] [(⟨ob, 0, none⟩, .int .u8 9)] (by kernel_rfl) (fun v n => by kernel_rfl) (holds_one hc) h
theorem runs10 : RunsTo 10 107 := fun w ob data vm R hc h =>
  calls_tail (c := Tryz.f88.body.getD .skip) 20000 w Tryz.func88 (by kernel_rfl) 612 Tryz.ntmps88 (show 3 ≤ 612 by omega) 6 Tryz.results88 [.int .u8 10] 107 #[.pointer (some ⟨ob, 0, none⟩), data, vm] [(⟨ob, 0, none⟩, .int .u8 10)] (by kernel_rfl) (fun v n => by kernel_rfl) (holds_one hc) h
theorem runs11 : RunsTo 11 107 := fun w ob data vm R hc h =>
  calls_tail (c := Tryz.f88.body.getD .skip) 20000 w Tryz.func88 (by kernel_rfl) 612 Tryz.ntmps88 (show 3 ≤ 612 by omega) 6 Tryz.results88 [.int .u8 11] 107 #[.pointer (some ⟨ob, 0, none⟩), data, vm] [(⟨ob, 0, none⟩, .int .u8 11)] (by kernel_rfl) (fun v n => by kernel_rfl) (holds_one hc) h
theorem runs12 : RunsTo 12 107 := fun w ob data vm R hc h =>
  calls_tail (c := Tryz.f88.body.getD .skip) 20000 w Tryz.func88 (by kernel_rfl) 612 Tryz.ntmps88 (show 3 ≤ 612 by omega) 6 Tryz.results88 [.int .u8 12] 107 #[.pointer (some ⟨ob, 0, none⟩), data, vm] [(⟨ob, 0, none⟩, .int .u8 12)] (by kernel_rfl) (fun v n => by kernel_rfl) (holds_one hc) h
theorem runs13 : RunsTo 13 107 := fun w ob data vm R hc h =>
  calls_tail (c := Tryz.f88.body.getD .skip) 20000 w Tryz.func88 (by kernel_rfl) 612 Tryz.ntmps88 (show 3 ≤ 612 by omega) 6 Tryz.results88 [.int .u8 13] 107 #[.pointer (some ⟨ob, 0, none⟩), data, vm] [(⟨ob, 0, none⟩, .int .u8 13)] (by kernel_rfl) (fun v n => by kernel_rfl) (holds_one hc) h
theorem runs14 : RunsTo 14 107 := fun w ob data vm R hc h =>
  calls_tail (c := Tryz.f88.body.getD .skip) 20000 w Tryz.func88 (by kernel_rfl) 612 Tryz.ntmps88 (show 3 ≤ 612 by omega) 6 Tryz.results88 [.int .u8 14] 107 #[.pointer (some ⟨ob, 0, none⟩), data, vm] [(⟨ob, 0, none⟩, .int .u8 14)] (by kernel_rfl) (fun v n => by kernel_rfl) (holds_one hc) h
theorem runs15 : RunsTo 15 107 := fun w ob data vm R hc h =>
  calls_tail (c := Tryz.f88.body.getD .skip) 20000 w Tryz.func88 (by kernel_rfl) 612 Tryz.ntmps88 (show 3 ≤ 612 by omega) 6 Tryz.results88 [.int .u8 15] 107 #[.pointer (some ⟨ob, 0, none⟩), data, vm] [(⟨ob, 0, none⟩, .int .u8 15)] (by kernel_rfl) (fun v n => by kernel_rfl) (holds_one hc) h
theorem runs16 : RunsTo 16 107 := fun w ob data vm R hc h =>
  calls_tail (c := Tryz.f88.body.getD .skip) 20000 w Tryz.func88 (by kernel_rfl) 612 Tryz.ntmps88 (show 3 ≤ 612 by omega) 6 Tryz.results88 [.int .u8 16] 107 #[.pointer (some ⟨ob, 0, none⟩), data, vm] [(⟨ob, 0, none⟩, .int .u8 16)] (by kernel_rfl) (fun v n => by kernel_rfl) (holds_one hc) h
theorem runs17 : RunsTo 17 107 := fun w ob data vm R hc h =>
  calls_tail (c := Tryz.f88.body.getD .skip) 20000 w Tryz.func88 (by kernel_rfl) 612 Tryz.ntmps88 (show 3 ≤ 612 by omega) 6 Tryz.results88 [.int .u8 17] 107 #[.pointer (some ⟨ob, 0, none⟩), data, vm] [(⟨ob, 0, none⟩, .int .u8 17)] (by kernel_rfl) (fun v n => by kernel_rfl) (holds_one hc) h
theorem runs18 : RunsTo 18 107 := fun w ob data vm R hc h =>
  calls_tail (c := Tryz.f88.body.getD .skip) 20000 w Tryz.func88 (by kernel_rfl) 612 Tryz.ntmps88 (show 3 ≤ 612 by omega) 6 Tryz.results88 [.int .u8 18] 107 #[.pointer (some ⟨ob, 0, none⟩), data, vm] [(⟨ob, 0, none⟩, .int .u8 18)] (by kernel_rfl) (fun v n => by kernel_rfl) (holds_one hc) h
theorem runs19 : RunsTo 19 107 := fun w ob data vm R hc h =>
  calls_tail (c := Tryz.f88.body.getD .skip) 20000 w Tryz.func88 (by kernel_rfl) 612 Tryz.ntmps88 (show 3 ≤ 612 by omega) 6 Tryz.results88 [.int .u8 19] 107 #[.pointer (some ⟨ob, 0, none⟩), data, vm] [(⟨ob, 0, none⟩, .int .u8 19)] (by kernel_rfl) (fun v n => by kernel_rfl) (holds_one hc) h
theorem runs20 : RunsTo 20 107 := fun w ob data vm R hc h =>
  calls_tail (c := Tryz.f88.body.getD .skip) 20000 w Tryz.func88 (by kernel_rfl) 612 Tryz.ntmps88 (show 3 ≤ 612 by omega) 6 Tryz.results88 [.int .u8 20] 107 #[.pointer (some ⟨ob, 0, none⟩), data, vm] [(⟨ob, 0, none⟩, .int .u8 20)] (by kernel_rfl) (fun v n => by kernel_rfl) (holds_one hc) h
theorem runs21 : RunsTo 21 107 := fun w ob data vm R hc h =>
  calls_tail (c := Tryz.f88.body.getD .skip) 20000 w Tryz.func88 (by kernel_rfl) 612 Tryz.ntmps88 (show 3 ≤ 612 by omega) 6 Tryz.results88 [.int .u8 21] 107 #[.pointer (some ⟨ob, 0, none⟩), data, vm] [(⟨ob, 0, none⟩, .int .u8 21)] (by kernel_rfl) (fun v n => by kernel_rfl) (holds_one hc) h
theorem runs22 : RunsTo 22 107 := fun w ob data vm R hc h =>
  calls_tail (c := Tryz.f88.body.getD .skip) 20000 w Tryz.func88 (by kernel_rfl) 612 Tryz.ntmps88 (show 3 ≤ 612 by omega) 6 Tryz.results88 [.int .u8 22] 107 #[.pointer (some ⟨ob, 0, none⟩), data, vm] [(⟨ob, 0, none⟩, .int .u8 22)] (by kernel_rfl) (fun v n => by kernel_rfl) (holds_one hc) h
theorem runs23 : RunsTo 23 107 := fun w ob data vm R hc h =>
  calls_tail (c := Tryz.f88.body.getD .skip) 20000 w Tryz.func88 (by kernel_rfl) 612 Tryz.ntmps88 (show 3 ≤ 612 by omega) 6 Tryz.results88 [.int .u8 23] 107 #[.pointer (some ⟨ob, 0, none⟩), data, vm] [(⟨ob, 0, none⟩, .int .u8 23)] (by kernel_rfl) (fun v n => by kernel_rfl) (holds_one hc) h
theorem runs24 : RunsTo 24 107 := fun w ob data vm R hc h =>
  calls_tail (c := Tryz.f88.body.getD .skip) 20000 w Tryz.func88 (by kernel_rfl) 612 Tryz.ntmps88 (show 3 ≤ 612 by omega) 6 Tryz.results88 [.int .u8 24] 107 #[.pointer (some ⟨ob, 0, none⟩), data, vm] [(⟨ob, 0, none⟩, .int .u8 24)] (by kernel_rfl) (fun v n => by kernel_rfl) (holds_one hc) h
theorem runs25 : RunsTo 25 107 := fun w ob data vm R hc h =>
  calls_tail (c := Tryz.f88.body.getD .skip) 20000 w Tryz.func88 (by kernel_rfl) 612 Tryz.ntmps88 (show 3 ≤ 612 by omega) 6 Tryz.results88 [.int .u8 25] 107 #[.pointer (some ⟨ob, 0, none⟩), data, vm] [(⟨ob, 0, none⟩, .int .u8 25)] (by kernel_rfl) (fun v n => by kernel_rfl) (holds_one hc) h
theorem runs26 : RunsTo 26 107 := fun w ob data vm R hc h =>
  calls_tail (c := Tryz.f88.body.getD .skip) 20000 w Tryz.func88 (by kernel_rfl) 612 Tryz.ntmps88 (show 3 ≤ 612 by omega) 6 Tryz.results88 [.int .u8 26] 107 #[.pointer (some ⟨ob, 0, none⟩), data, vm] [(⟨ob, 0, none⟩, .int .u8 26)] (by kernel_rfl) (fun v n => by kernel_rfl) (holds_one hc) h
theorem runs27 : RunsTo 27 107 := fun w ob data vm R hc h =>
  calls_tail (c := Tryz.f88.body.getD .skip) 20000 w Tryz.func88 (by kernel_rfl) 612 Tryz.ntmps88 (show 3 ≤ 612 by omega) 6 Tryz.results88 [.int .u8 27] 107 #[.pointer (some ⟨ob, 0, none⟩), data, vm] [(⟨ob, 0, none⟩, .int .u8 27)] (by kernel_rfl) (fun v n => by kernel_rfl) (holds_one hc) h
theorem runs28 : RunsTo 28 107 := fun w ob data vm R hc h =>
  calls_tail (c := Tryz.f88.body.getD .skip) 20000 w Tryz.func88 (by kernel_rfl) 612 Tryz.ntmps88 (show 3 ≤ 612 by omega) 6 Tryz.results88 [.int .u8 28] 107 #[.pointer (some ⟨ob, 0, none⟩), data, vm] [(⟨ob, 0, none⟩, .int .u8 28)] (by kernel_rfl) (fun v n => by kernel_rfl) (holds_one hc) h
theorem runs29 : RunsTo 29 107 := fun w ob data vm R hc h =>
  calls_tail (c := Tryz.f88.body.getD .skip) 20000 w Tryz.func88 (by kernel_rfl) 612 Tryz.ntmps88 (show 3 ≤ 612 by omega) 6 Tryz.results88 [.int .u8 29] 107 #[.pointer (some ⟨ob, 0, none⟩), data, vm] [(⟨ob, 0, none⟩, .int .u8 29)] (by kernel_rfl) (fun v n => by kernel_rfl) (holds_one hc) h
theorem runs30 : RunsTo 30 107 := fun w ob data vm R hc h =>
  calls_tail (c := Tryz.f88.body.getD .skip) 20000 w Tryz.func88 (by kernel_rfl) 612 Tryz.ntmps88 (show 3 ≤ 612 by omega) 6 Tryz.results88 [.int .u8 30] 107 #[.pointer (some ⟨ob, 0, none⟩), data, vm] [(⟨ob, 0, none⟩, .int .u8 30)] (by kernel_rfl) (fun v n => by kernel_rfl) (holds_one hc) h
theorem runs31 : RunsTo 31 107 := fun w ob data vm R hc h =>
  calls_tail (c := Tryz.f88.body.getD .skip) 20000 w Tryz.func88 (by kernel_rfl) 612 Tryz.ntmps88 (show 3 ≤ 612 by omega) 6 Tryz.results88 [.int .u8 31] 107 #[.pointer (some ⟨ob, 0, none⟩), data, vm] [(⟨ob, 0, none⟩, .int .u8 31)] (by kernel_rfl) (fun v n => by kernel_rfl) (holds_one hc) h
theorem runs32 : RunsTo 32 107 := fun w ob data vm R hc h =>
  calls_tail (c := Tryz.f88.body.getD .skip) 20000 w Tryz.func88 (by kernel_rfl) 612 Tryz.ntmps88 (show 3 ≤ 612 by omega) 6 Tryz.results88 [.int .u8 32] 107 #[.pointer (some ⟨ob, 0, none⟩), data, vm] [(⟨ob, 0, none⟩, .int .u8 32)] (by kernel_rfl) (fun v n => by kernel_rfl) (holds_one hc) h
theorem runs33 : RunsTo 33 107 := fun w ob data vm R hc h =>
  calls_tail (c := Tryz.f88.body.getD .skip) 20000 w Tryz.func88 (by kernel_rfl) 612 Tryz.ntmps88 (show 3 ≤ 612 by omega) 6 Tryz.results88 [.int .u8 33] 107 #[.pointer (some ⟨ob, 0, none⟩), data, vm] [(⟨ob, 0, none⟩, .int .u8 33)] (by kernel_rfl) (fun v n => by kernel_rfl) (holds_one hc) h
theorem runs34 : RunsTo 34 107 := fun w ob data vm R hc h =>
  calls_tail (c := Tryz.f88.body.getD .skip) 20000 w Tryz.func88 (by kernel_rfl) 612 Tryz.ntmps88 (show 3 ≤ 612 by omega) 6 Tryz.results88 [.int .u8 34] 107 #[.pointer (some ⟨ob, 0, none⟩), data, vm] [(⟨ob, 0, none⟩, .int .u8 34)] (by kernel_rfl) (fun v n => by kernel_rfl) (holds_one hc) h
theorem runs35 : RunsTo 35 107 := fun w ob data vm R hc h =>
  calls_tail (c := Tryz.f88.body.getD .skip) 20000 w Tryz.func88 (by kernel_rfl) 612 Tryz.ntmps88 (show 3 ≤ 612 by omega) 6 Tryz.results88 [.int .u8 35] 107 #[.pointer (some ⟨ob, 0, none⟩), data, vm] [(⟨ob, 0, none⟩, .int .u8 35)] (by kernel_rfl) (fun v n => by kernel_rfl) (holds_one hc) h
theorem runs36 : RunsTo 36 107 := fun w ob data vm R hc h =>
  calls_tail (c := Tryz.f88.body.getD .skip) 20000 w Tryz.func88 (by kernel_rfl) 612 Tryz.ntmps88 (show 3 ≤ 612 by omega) 6 Tryz.results88 [.int .u8 36] 107 #[.pointer (some ⟨ob, 0, none⟩), data, vm] [(⟨ob, 0, none⟩, .int .u8 36)] (by kernel_rfl) (fun v n => by kernel_rfl) (holds_one hc) h
theorem runs37 : RunsTo 37 107 := fun w ob data vm R hc h =>
  calls_tail (c := Tryz.f88.body.getD .skip) 20000 w Tryz.func88 (by kernel_rfl) 612 Tryz.ntmps88 (show 3 ≤ 612 by omega) 6 Tryz.results88 [.int .u8 37] 107 #[.pointer (some ⟨ob, 0, none⟩), data, vm] [(⟨ob, 0, none⟩, .int .u8 37)] (by kernel_rfl) (fun v n => by kernel_rfl) (holds_one hc) h
theorem runs38 : RunsTo 38 107 := fun w ob data vm R hc h =>
  calls_tail (c := Tryz.f88.body.getD .skip) 20000 w Tryz.func88 (by kernel_rfl) 612 Tryz.ntmps88 (show 3 ≤ 612 by omega) 6 Tryz.results88 [.int .u8 38] 107 #[.pointer (some ⟨ob, 0, none⟩), data, vm] [(⟨ob, 0, none⟩, .int .u8 38)] (by kernel_rfl) (fun v n => by kernel_rfl) (holds_one hc) h
theorem runs39 : RunsTo 39 107 := fun w ob data vm R hc h =>
  calls_tail (c := Tryz.f88.body.getD .skip) 20000 w Tryz.func88 (by kernel_rfl) 612 Tryz.ntmps88 (show 3 ≤ 612 by omega) 6 Tryz.results88 [.int .u8 39] 107 #[.pointer (some ⟨ob, 0, none⟩), data, vm] [(⟨ob, 0, none⟩, .int .u8 39)] (by kernel_rfl) (fun v n => by kernel_rfl) (holds_one hc) h
theorem runs40 : RunsTo 40 107 := fun w ob data vm R hc h =>
  calls_tail (c := Tryz.f88.body.getD .skip) 20000 w Tryz.func88 (by kernel_rfl) 612 Tryz.ntmps88 (show 3 ≤ 612 by omega) 6 Tryz.results88 [.int .u8 40] 107 #[.pointer (some ⟨ob, 0, none⟩), data, vm] [(⟨ob, 0, none⟩, .int .u8 40)] (by kernel_rfl) (fun v n => by kernel_rfl) (holds_one hc) h
theorem runs41 : RunsTo 41 107 := fun w ob data vm R hc h =>
  calls_tail (c := Tryz.f88.body.getD .skip) 20000 w Tryz.func88 (by kernel_rfl) 612 Tryz.ntmps88 (show 3 ≤ 612 by omega) 6 Tryz.results88 [.int .u8 41] 107 #[.pointer (some ⟨ob, 0, none⟩), data, vm] [(⟨ob, 0, none⟩, .int .u8 41)] (by kernel_rfl) (fun v n => by kernel_rfl) (holds_one hc) h
theorem runs42 : RunsTo 42 107 := fun w ob data vm R hc h =>
  calls_tail (c := Tryz.f88.body.getD .skip) 20000 w Tryz.func88 (by kernel_rfl) 612 Tryz.ntmps88 (show 3 ≤ 612 by omega) 6 Tryz.results88 [.int .u8 42] 107 #[.pointer (some ⟨ob, 0, none⟩), data, vm] [(⟨ob, 0, none⟩, .int .u8 42)] (by kernel_rfl) (fun v n => by kernel_rfl) (holds_one hc) h
theorem runs43 : RunsTo 43 107 := fun w ob data vm R hc h =>
  calls_tail (c := Tryz.f88.body.getD .skip) 20000 w Tryz.func88 (by kernel_rfl) 612 Tryz.ntmps88 (show 3 ≤ 612 by omega) 6 Tryz.results88 [.int .u8 43] 107 #[.pointer (some ⟨ob, 0, none⟩), data, vm] [(⟨ob, 0, none⟩, .int .u8 43)] (by kernel_rfl) (fun v n => by kernel_rfl) (holds_one hc) h
theorem runs44 : RunsTo 44 107 := fun w ob data vm R hc h =>
  calls_tail (c := Tryz.f88.body.getD .skip) 20000 w Tryz.func88 (by kernel_rfl) 612 Tryz.ntmps88 (show 3 ≤ 612 by omega) 6 Tryz.results88 [.int .u8 44] 107 #[.pointer (some ⟨ob, 0, none⟩), data, vm] [(⟨ob, 0, none⟩, .int .u8 44)] (by kernel_rfl) (fun v n => by kernel_rfl) (holds_one hc) h
theorem runs45 : RunsTo 45 107 := fun w ob data vm R hc h =>
  calls_tail (c := Tryz.f88.body.getD .skip) 20000 w Tryz.func88 (by kernel_rfl) 612 Tryz.ntmps88 (show 3 ≤ 612 by omega) 6 Tryz.results88 [.int .u8 45] 107 #[.pointer (some ⟨ob, 0, none⟩), data, vm] [(⟨ob, 0, none⟩, .int .u8 45)] (by kernel_rfl) (fun v n => by kernel_rfl) (holds_one hc) h
theorem runs46 : RunsTo 46 107 := fun w ob data vm R hc h =>
  calls_tail (c := Tryz.f88.body.getD .skip) 20000 w Tryz.func88 (by kernel_rfl) 612 Tryz.ntmps88 (show 3 ≤ 612 by omega) 6 Tryz.results88 [.int .u8 46] 107 #[.pointer (some ⟨ob, 0, none⟩), data, vm] [(⟨ob, 0, none⟩, .int .u8 46)] (by kernel_rfl) (fun v n => by kernel_rfl) (holds_one hc) h
theorem runs47 : RunsTo 47 107 := fun w ob data vm R hc h =>
  calls_tail (c := Tryz.f88.body.getD .skip) 20000 w Tryz.func88 (by kernel_rfl) 612 Tryz.ntmps88 (show 3 ≤ 612 by omega) 6 Tryz.results88 [.int .u8 47] 107 #[.pointer (some ⟨ob, 0, none⟩), data, vm] [(⟨ob, 0, none⟩, .int .u8 47)] (by kernel_rfl) (fun v n => by kernel_rfl) (holds_one hc) h
theorem runs48 : RunsTo 48 107 := fun w ob data vm R hc h =>
  calls_tail (c := Tryz.f88.body.getD .skip) 20000 w Tryz.func88 (by kernel_rfl) 612 Tryz.ntmps88 (show 3 ≤ 612 by omega) 6 Tryz.results88 [.int .u8 48] 107 #[.pointer (some ⟨ob, 0, none⟩), data, vm] [(⟨ob, 0, none⟩, .int .u8 48)] (by kernel_rfl) (fun v n => by kernel_rfl) (holds_one hc) h
theorem runs49 : RunsTo 49 107 := fun w ob data vm R hc h =>
  calls_tail (c := Tryz.f88.body.getD .skip) 20000 w Tryz.func88 (by kernel_rfl) 612 Tryz.ntmps88 (show 3 ≤ 612 by omega) 6 Tryz.results88 [.int .u8 49] 107 #[.pointer (some ⟨ob, 0, none⟩), data, vm] [(⟨ob, 0, none⟩, .int .u8 49)] (by kernel_rfl) (fun v n => by kernel_rfl) (holds_one hc) h
theorem runs50 : RunsTo 50 107 := fun w ob data vm R hc h =>
  calls_tail (c := Tryz.f88.body.getD .skip) 20000 w Tryz.func88 (by kernel_rfl) 612 Tryz.ntmps88 (show 3 ≤ 612 by omega) 6 Tryz.results88 [.int .u8 50] 107 #[.pointer (some ⟨ob, 0, none⟩), data, vm] [(⟨ob, 0, none⟩, .int .u8 50)] (by kernel_rfl) (fun v n => by kernel_rfl) (holds_one hc) h
theorem runs51 : RunsTo 51 107 := fun w ob data vm R hc h =>
  calls_tail (c := Tryz.f88.body.getD .skip) 20000 w Tryz.func88 (by kernel_rfl) 612 Tryz.ntmps88 (show 3 ≤ 612 by omega) 6 Tryz.results88 [.int .u8 51] 107 #[.pointer (some ⟨ob, 0, none⟩), data, vm] [(⟨ob, 0, none⟩, .int .u8 51)] (by kernel_rfl) (fun v n => by kernel_rfl) (holds_one hc) h
theorem runs52 : RunsTo 52 107 := fun w ob data vm R hc h =>
  calls_tail (c := Tryz.f88.body.getD .skip) 20000 w Tryz.func88 (by kernel_rfl) 612 Tryz.ntmps88 (show 3 ≤ 612 by omega) 6 Tryz.results88 [.int .u8 52] 107 #[.pointer (some ⟨ob, 0, none⟩), data, vm] [(⟨ob, 0, none⟩, .int .u8 52)] (by kernel_rfl) (fun v n => by kernel_rfl) (holds_one hc) h
theorem runs53 : RunsTo 53 107 := fun w ob data vm R hc h =>
  calls_tail (c := Tryz.f88.body.getD .skip) 20000 w Tryz.func88 (by kernel_rfl) 612 Tryz.ntmps88 (show 3 ≤ 612 by omega) 6 Tryz.results88 [.int .u8 53] 107 #[.pointer (some ⟨ob, 0, none⟩), data, vm] [(⟨ob, 0, none⟩, .int .u8 53)] (by kernel_rfl) (fun v n => by kernel_rfl) (holds_one hc) h
theorem runs54 : RunsTo 54 107 := fun w ob data vm R hc h =>
  calls_tail (c := Tryz.f88.body.getD .skip) 20000 w Tryz.func88 (by kernel_rfl) 612 Tryz.ntmps88 (show 3 ≤ 612 by omega) 6 Tryz.results88 [.int .u8 54] 107 #[.pointer (some ⟨ob, 0, none⟩), data, vm] [(⟨ob, 0, none⟩, .int .u8 54)] (by kernel_rfl) (fun v n => by kernel_rfl) (holds_one hc) h
theorem runs55 : RunsTo 55 107 := fun w ob data vm R hc h =>
  calls_tail (c := Tryz.f88.body.getD .skip) 20000 w Tryz.func88 (by kernel_rfl) 612 Tryz.ntmps88 (show 3 ≤ 612 by omega) 6 Tryz.results88 [.int .u8 55] 107 #[.pointer (some ⟨ob, 0, none⟩), data, vm] [(⟨ob, 0, none⟩, .int .u8 55)] (by kernel_rfl) (fun v n => by kernel_rfl) (holds_one hc) h
theorem runs56 : RunsTo 56 107 := fun w ob data vm R hc h =>
  calls_tail (c := Tryz.f88.body.getD .skip) 20000 w Tryz.func88 (by kernel_rfl) 612 Tryz.ntmps88 (show 3 ≤ 612 by omega) 6 Tryz.results88 [.int .u8 56] 107 #[.pointer (some ⟨ob, 0, none⟩), data, vm] [(⟨ob, 0, none⟩, .int .u8 56)] (by kernel_rfl) (fun v n => by kernel_rfl) (holds_one hc) h
theorem runs57 : RunsTo 57 107 := fun w ob data vm R hc h =>
  calls_tail (c := Tryz.f88.body.getD .skip) 20000 w Tryz.func88 (by kernel_rfl) 612 Tryz.ntmps88 (show 3 ≤ 612 by omega) 6 Tryz.results88 [.int .u8 57] 107 #[.pointer (some ⟨ob, 0, none⟩), data, vm] [(⟨ob, 0, none⟩, .int .u8 57)] (by kernel_rfl) (fun v n => by kernel_rfl) (holds_one hc) h
theorem runs58 : RunsTo 58 107 := fun w ob data vm R hc h =>
  calls_tail (c := Tryz.f88.body.getD .skip) 20000 w Tryz.func88 (by kernel_rfl) 612 Tryz.ntmps88 (show 3 ≤ 612 by omega) 6 Tryz.results88 [.int .u8 58] 107 #[.pointer (some ⟨ob, 0, none⟩), data, vm] [(⟨ob, 0, none⟩, .int .u8 58)] (by kernel_rfl) (fun v n => by kernel_rfl) (holds_one hc) h
theorem runs59 : RunsTo 59 107 := fun w ob data vm R hc h =>
  calls_tail (c := Tryz.f88.body.getD .skip) 20000 w Tryz.func88 (by kernel_rfl) 612 Tryz.ntmps88 (show 3 ≤ 612 by omega) 6 Tryz.results88 [.int .u8 59] 107 #[.pointer (some ⟨ob, 0, none⟩), data, vm] [(⟨ob, 0, none⟩, .int .u8 59)] (by kernel_rfl) (fun v n => by kernel_rfl) (holds_one hc) h
theorem runs60 : RunsTo 60 107 := fun w ob data vm R hc h =>
  calls_tail (c := Tryz.f88.body.getD .skip) 20000 w Tryz.func88 (by kernel_rfl) 612 Tryz.ntmps88 (show 3 ≤ 612 by omega) 6 Tryz.results88 [.int .u8 60] 107 #[.pointer (some ⟨ob, 0, none⟩), data, vm] [(⟨ob, 0, none⟩, .int .u8 60)] (by kernel_rfl) (fun v n => by kernel_rfl) (holds_one hc) h
theorem runs61 : RunsTo 61 107 := fun w ob data vm R hc h =>
  calls_tail (c := Tryz.f88.body.getD .skip) 20000 w Tryz.func88 (by kernel_rfl) 612 Tryz.ntmps88 (show 3 ≤ 612 by omega) 6 Tryz.results88 [.int .u8 61] 107 #[.pointer (some ⟨ob, 0, none⟩), data, vm] [(⟨ob, 0, none⟩, .int .u8 61)] (by kernel_rfl) (fun v n => by kernel_rfl) (holds_one hc) h
theorem runs62 : RunsTo 62 107 := fun w ob data vm R hc h =>
  calls_tail (c := Tryz.f88.body.getD .skip) 20000 w Tryz.func88 (by kernel_rfl) 612 Tryz.ntmps88 (show 3 ≤ 612 by omega) 6 Tryz.results88 [.int .u8 62] 107 #[.pointer (some ⟨ob, 0, none⟩), data, vm] [(⟨ob, 0, none⟩, .int .u8 62)] (by kernel_rfl) (fun v n => by kernel_rfl) (holds_one hc) h
theorem runs63 : RunsTo 63 107 := fun w ob data vm R hc h =>
  calls_tail (c := Tryz.f88.body.getD .skip) 20000 w Tryz.func88 (by kernel_rfl) 612 Tryz.ntmps88 (show 3 ≤ 612 by omega) 6 Tryz.results88 [.int .u8 63] 107 #[.pointer (some ⟨ob, 0, none⟩), data, vm] [(⟨ob, 0, none⟩, .int .u8 63)] (by kernel_rfl) (fun v n => by kernel_rfl) (holds_one hc) h
theorem runs64 : RunsTo 64 107 := fun w ob data vm R hc h =>
  calls_tail (c := Tryz.f88.body.getD .skip) 20000 w Tryz.func88 (by kernel_rfl) 612 Tryz.ntmps88 (show 3 ≤ 612 by omega) 6 Tryz.results88 [.int .u8 64] 107 #[.pointer (some ⟨ob, 0, none⟩), data, vm] [(⟨ob, 0, none⟩, .int .u8 64)] (by kernel_rfl) (fun v n => by kernel_rfl) (holds_one hc) h
theorem runs65 : RunsTo 65 107 := fun w ob data vm R hc h =>
  calls_tail (c := Tryz.f88.body.getD .skip) 20000 w Tryz.func88 (by kernel_rfl) 612 Tryz.ntmps88 (show 3 ≤ 612 by omega) 6 Tryz.results88 [.int .u8 65] 107 #[.pointer (some ⟨ob, 0, none⟩), data, vm] [(⟨ob, 0, none⟩, .int .u8 65)] (by kernel_rfl) (fun v n => by kernel_rfl) (holds_one hc) h
theorem runs66 : RunsTo 66 107 := fun w ob data vm R hc h =>
  calls_tail (c := Tryz.f88.body.getD .skip) 20000 w Tryz.func88 (by kernel_rfl) 612 Tryz.ntmps88 (show 3 ≤ 612 by omega) 6 Tryz.results88 [.int .u8 66] 107 #[.pointer (some ⟨ob, 0, none⟩), data, vm] [(⟨ob, 0, none⟩, .int .u8 66)] (by kernel_rfl) (fun v n => by kernel_rfl) (holds_one hc) h
theorem runs67 : RunsTo 67 107 := fun w ob data vm R hc h =>
  calls_tail (c := Tryz.f88.body.getD .skip) 20000 w Tryz.func88 (by kernel_rfl) 612 Tryz.ntmps88 (show 3 ≤ 612 by omega) 6 Tryz.results88 [.int .u8 67] 107 #[.pointer (some ⟨ob, 0, none⟩), data, vm] [(⟨ob, 0, none⟩, .int .u8 67)] (by kernel_rfl) (fun v n => by kernel_rfl) (holds_one hc) h
theorem runs68 : RunsTo 68 107 := fun w ob data vm R hc h =>
  calls_tail (c := Tryz.f88.body.getD .skip) 20000 w Tryz.func88 (by kernel_rfl) 612 Tryz.ntmps88 (show 3 ≤ 612 by omega) 6 Tryz.results88 [.int .u8 68] 107 #[.pointer (some ⟨ob, 0, none⟩), data, vm] [(⟨ob, 0, none⟩, .int .u8 68)] (by kernel_rfl) (fun v n => by kernel_rfl) (holds_one hc) h
theorem runs69 : RunsTo 69 107 := fun w ob data vm R hc h =>
  calls_tail (c := Tryz.f88.body.getD .skip) 20000 w Tryz.func88 (by kernel_rfl) 612 Tryz.ntmps88 (show 3 ≤ 612 by omega) 6 Tryz.results88 [.int .u8 69] 107 #[.pointer (some ⟨ob, 0, none⟩), data, vm] [(⟨ob, 0, none⟩, .int .u8 69)] (by kernel_rfl) (fun v n => by kernel_rfl) (holds_one hc) h
theorem runs70 : RunsTo 70 107 := fun w ob data vm R hc h =>
  calls_tail (c := Tryz.f88.body.getD .skip) 20000 w Tryz.func88 (by kernel_rfl) 612 Tryz.ntmps88 (show 3 ≤ 612 by omega) 6 Tryz.results88 [.int .u8 70] 107 #[.pointer (some ⟨ob, 0, none⟩), data, vm] [(⟨ob, 0, none⟩, .int .u8 70)] (by kernel_rfl) (fun v n => by kernel_rfl) (holds_one hc) h
theorem runs71 : RunsTo 71 107 := fun w ob data vm R hc h =>
  calls_tail (c := Tryz.f88.body.getD .skip) 20000 w Tryz.func88 (by kernel_rfl) 612 Tryz.ntmps88 (show 3 ≤ 612 by omega) 6 Tryz.results88 [.int .u8 71] 107 #[.pointer (some ⟨ob, 0, none⟩), data, vm] [(⟨ob, 0, none⟩, .int .u8 71)] (by kernel_rfl) (fun v n => by kernel_rfl) (holds_one hc) h
theorem runs72 : RunsTo 72 107 := fun w ob data vm R hc h =>
  calls_tail (c := Tryz.f88.body.getD .skip) 20000 w Tryz.func88 (by kernel_rfl) 612 Tryz.ntmps88 (show 3 ≤ 612 by omega) 6 Tryz.results88 [.int .u8 72] 107 #[.pointer (some ⟨ob, 0, none⟩), data, vm] [(⟨ob, 0, none⟩, .int .u8 72)] (by kernel_rfl) (fun v n => by kernel_rfl) (holds_one hc) h
theorem runs73 : RunsTo 73 107 := fun w ob data vm R hc h =>
  calls_tail (c := Tryz.f88.body.getD .skip) 20000 w Tryz.func88 (by kernel_rfl) 612 Tryz.ntmps88 (show 3 ≤ 612 by omega) 6 Tryz.results88 [.int .u8 73] 107 #[.pointer (some ⟨ob, 0, none⟩), data, vm] [(⟨ob, 0, none⟩, .int .u8 73)] (by kernel_rfl) (fun v n => by kernel_rfl) (holds_one hc) h
theorem runs74 : RunsTo 74 107 := fun w ob data vm R hc h =>
  calls_tail (c := Tryz.f88.body.getD .skip) 20000 w Tryz.func88 (by kernel_rfl) 612 Tryz.ntmps88 (show 3 ≤ 612 by omega) 6 Tryz.results88 [.int .u8 74] 107 #[.pointer (some ⟨ob, 0, none⟩), data, vm] [(⟨ob, 0, none⟩, .int .u8 74)] (by kernel_rfl) (fun v n => by kernel_rfl) (holds_one hc) h
theorem runs75 : RunsTo 75 107 := fun w ob data vm R hc h =>
  calls_tail (c := Tryz.f88.body.getD .skip) 20000 w Tryz.func88 (by kernel_rfl) 612 Tryz.ntmps88 (show 3 ≤ 612 by omega) 6 Tryz.results88 [.int .u8 75] 107 #[.pointer (some ⟨ob, 0, none⟩), data, vm] [(⟨ob, 0, none⟩, .int .u8 75)] (by kernel_rfl) (fun v n => by kernel_rfl) (holds_one hc) h
theorem runs76 : RunsTo 76 107 := fun w ob data vm R hc h =>
  calls_tail (c := Tryz.f88.body.getD .skip) 20000 w Tryz.func88 (by kernel_rfl) 612 Tryz.ntmps88 (show 3 ≤ 612 by omega) 6 Tryz.results88 [.int .u8 76] 107 #[.pointer (some ⟨ob, 0, none⟩), data, vm] [(⟨ob, 0, none⟩, .int .u8 76)] (by kernel_rfl) (fun v n => by kernel_rfl) (holds_one hc) h
theorem runs77 : RunsTo 77 107 := fun w ob data vm R hc h =>
  calls_tail (c := Tryz.f88.body.getD .skip) 20000 w Tryz.func88 (by kernel_rfl) 612 Tryz.ntmps88 (show 3 ≤ 612 by omega) 6 Tryz.results88 [.int .u8 77] 107 #[.pointer (some ⟨ob, 0, none⟩), data, vm] [(⟨ob, 0, none⟩, .int .u8 77)] (by kernel_rfl) (fun v n => by kernel_rfl) (holds_one hc) h
theorem runs78 : RunsTo 78 107 := fun w ob data vm R hc h =>
  calls_tail (c := Tryz.f88.body.getD .skip) 20000 w Tryz.func88 (by kernel_rfl) 612 Tryz.ntmps88 (show 3 ≤ 612 by omega) 6 Tryz.results88 [.int .u8 78] 107 #[.pointer (some ⟨ob, 0, none⟩), data, vm] [(⟨ob, 0, none⟩, .int .u8 78)] (by kernel_rfl) (fun v n => by kernel_rfl) (holds_one hc) h
theorem runs79 : RunsTo 79 108 := fun w ob data vm R hc h =>
  calls_tail (c := Tryz.f88.body.getD .skip) 20000 w Tryz.func88 (by kernel_rfl) 612 Tryz.ntmps88 (show 3 ≤ 612 by omega) 6 Tryz.results88 [.int .u8 79] 108 #[.pointer (some ⟨ob, 0, none⟩), data, vm] [(⟨ob, 0, none⟩, .int .u8 79)] (by kernel_rfl) (fun v n => by kernel_rfl) (holds_one hc) h
theorem runs81 : RunsTo 81 110 := fun w ob data vm R hc h =>
  calls_tail (c := Tryz.f88.body.getD .skip) 20000 w Tryz.func88 (by kernel_rfl) 612 Tryz.ntmps88 (show 3 ≤ 612 by omega) 6 Tryz.results88 [.int .u8 81] 110 #[.pointer (some ⟨ob, 0, none⟩), data, vm] [(⟨ob, 0, none⟩, .int .u8 81)] (by kernel_rfl) (fun v n => by kernel_rfl) (holds_one hc) h
theorem runs82 : RunsTo 82 110 := fun w ob data vm R hc h =>
  calls_tail (c := Tryz.f88.body.getD .skip) 20000 w Tryz.func88 (by kernel_rfl) 612 Tryz.ntmps88 (show 3 ≤ 612 by omega) 6 Tryz.results88 [.int .u8 82] 110 #[.pointer (some ⟨ob, 0, none⟩), data, vm] [(⟨ob, 0, none⟩, .int .u8 82)] (by kernel_rfl) (fun v n => by kernel_rfl) (holds_one hc) h
theorem runs83 : RunsTo 83 110 := fun w ob data vm R hc h =>
  calls_tail (c := Tryz.f88.body.getD .skip) 20000 w Tryz.func88 (by kernel_rfl) 612 Tryz.ntmps88 (show 3 ≤ 612 by omega) 6 Tryz.results88 [.int .u8 83] 110 #[.pointer (some ⟨ob, 0, none⟩), data, vm] [(⟨ob, 0, none⟩, .int .u8 83)] (by kernel_rfl) (fun v n => by kernel_rfl) (holds_one hc) h
theorem runs84 : RunsTo 84 110 := fun w ob data vm R hc h =>
  calls_tail (c := Tryz.f88.body.getD .skip) 20000 w Tryz.func88 (by kernel_rfl) 612 Tryz.ntmps88 (show 3 ≤ 612 by omega) 6 Tryz.results88 [.int .u8 84] 110 #[.pointer (some ⟨ob, 0, none⟩), data, vm] [(⟨ob, 0, none⟩, .int .u8 84)] (by kernel_rfl) (fun v n => by kernel_rfl) (holds_one hc) h
theorem runs85 : RunsTo 85 110 := fun w ob data vm R hc h =>
  calls_tail (c := Tryz.f88.body.getD .skip) 20000 w Tryz.func88 (by kernel_rfl) 612 Tryz.ntmps88 (show 3 ≤ 612 by omega) 6 Tryz.results88 [.int .u8 85] 110 #[.pointer (some ⟨ob, 0, none⟩), data, vm] [(⟨ob, 0, none⟩, .int .u8 85)] (by kernel_rfl) (fun v n => by kernel_rfl) (holds_one hc) h
theorem runs86 : RunsTo 86 110 := fun w ob data vm R hc h =>
  calls_tail (c := Tryz.f88.body.getD .skip) 20000 w Tryz.func88 (by kernel_rfl) 612 Tryz.ntmps88 (show 3 ≤ 612 by omega) 6 Tryz.results88 [.int .u8 86] 110 #[.pointer (some ⟨ob, 0, none⟩), data, vm] [(⟨ob, 0, none⟩, .int .u8 86)] (by kernel_rfl) (fun v n => by kernel_rfl) (holds_one hc) h
theorem runs87 : RunsTo 87 110 := fun w ob data vm R hc h =>
  calls_tail (c := Tryz.f88.body.getD .skip) 20000 w Tryz.func88 (by kernel_rfl) 612 Tryz.ntmps88 (show 3 ≤ 612 by omega) 6 Tryz.results88 [.int .u8 87] 110 #[.pointer (some ⟨ob, 0, none⟩), data, vm] [(⟨ob, 0, none⟩, .int .u8 87)] (by kernel_rfl) (fun v n => by kernel_rfl) (holds_one hc) h
theorem runs88 : RunsTo 88 110 := fun w ob data vm R hc h =>
  calls_tail (c := Tryz.f88.body.getD .skip) 20000 w Tryz.func88 (by kernel_rfl) 612 Tryz.ntmps88 (show 3 ≤ 612 by omega) 6 Tryz.results88 [.int .u8 88] 110 #[.pointer (some ⟨ob, 0, none⟩), data, vm] [(⟨ob, 0, none⟩, .int .u8 88)] (by kernel_rfl) (fun v n => by kernel_rfl) (holds_one hc) h
theorem runs89 : RunsTo 89 110 := fun w ob data vm R hc h =>
  calls_tail (c := Tryz.f88.body.getD .skip) 20000 w Tryz.func88 (by kernel_rfl) 612 Tryz.ntmps88 (show 3 ≤ 612 by omega) 6 Tryz.results88 [.int .u8 89] 110 #[.pointer (some ⟨ob, 0, none⟩), data, vm] [(⟨ob, 0, none⟩, .int .u8 89)] (by kernel_rfl) (fun v n => by kernel_rfl) (holds_one hc) h
theorem runs90 : RunsTo 90 110 := fun w ob data vm R hc h =>
  calls_tail (c := Tryz.f88.body.getD .skip) 20000 w Tryz.func88 (by kernel_rfl) 612 Tryz.ntmps88 (show 3 ≤ 612 by omega) 6 Tryz.results88 [.int .u8 90] 110 #[.pointer (some ⟨ob, 0, none⟩), data, vm] [(⟨ob, 0, none⟩, .int .u8 90)] (by kernel_rfl) (fun v n => by kernel_rfl) (holds_one hc) h
theorem runs91 : RunsTo 91 110 := fun w ob data vm R hc h =>
  calls_tail (c := Tryz.f88.body.getD .skip) 20000 w Tryz.func88 (by kernel_rfl) 612 Tryz.ntmps88 (show 3 ≤ 612 by omega) 6 Tryz.results88 [.int .u8 91] 110 #[.pointer (some ⟨ob, 0, none⟩), data, vm] [(⟨ob, 0, none⟩, .int .u8 91)] (by kernel_rfl) (fun v n => by kernel_rfl) (holds_one hc) h
theorem runs92 : RunsTo 92 110 := fun w ob data vm R hc h =>
  calls_tail (c := Tryz.f88.body.getD .skip) 20000 w Tryz.func88 (by kernel_rfl) 612 Tryz.ntmps88 (show 3 ≤ 612 by omega) 6 Tryz.results88 [.int .u8 92] 110 #[.pointer (some ⟨ob, 0, none⟩), data, vm] [(⟨ob, 0, none⟩, .int .u8 92)] (by kernel_rfl) (fun v n => by kernel_rfl) (holds_one hc) h
theorem runs93 : RunsTo 93 110 := fun w ob data vm R hc h =>
  calls_tail (c := Tryz.f88.body.getD .skip) 20000 w Tryz.func88 (by kernel_rfl) 612 Tryz.ntmps88 (show 3 ≤ 612 by omega) 6 Tryz.results88 [.int .u8 93] 110 #[.pointer (some ⟨ob, 0, none⟩), data, vm] [(⟨ob, 0, none⟩, .int .u8 93)] (by kernel_rfl) (fun v n => by kernel_rfl) (holds_one hc) h
theorem runs94 : RunsTo 94 110 := fun w ob data vm R hc h =>
  calls_tail (c := Tryz.f88.body.getD .skip) 20000 w Tryz.func88 (by kernel_rfl) 612 Tryz.ntmps88 (show 3 ≤ 612 by omega) 6 Tryz.results88 [.int .u8 94] 110 #[.pointer (some ⟨ob, 0, none⟩), data, vm] [(⟨ob, 0, none⟩, .int .u8 94)] (by kernel_rfl) (fun v n => by kernel_rfl) (holds_one hc) h
theorem runs95 : RunsTo 95 110 := fun w ob data vm R hc h =>
  calls_tail (c := Tryz.f88.body.getD .skip) 20000 w Tryz.func88 (by kernel_rfl) 612 Tryz.ntmps88 (show 3 ≤ 612 by omega) 6 Tryz.results88 [.int .u8 95] 110 #[.pointer (some ⟨ob, 0, none⟩), data, vm] [(⟨ob, 0, none⟩, .int .u8 95)] (by kernel_rfl) (fun v n => by kernel_rfl) (holds_one hc) h
theorem runs96 : RunsTo 96 110 := fun w ob data vm R hc h =>
  calls_tail (c := Tryz.f88.body.getD .skip) 20000 w Tryz.func88 (by kernel_rfl) 612 Tryz.ntmps88 (show 3 ≤ 612 by omega) 6 Tryz.results88 [.int .u8 96] 110 #[.pointer (some ⟨ob, 0, none⟩), data, vm] [(⟨ob, 0, none⟩, .int .u8 96)] (by kernel_rfl) (fun v n => by kernel_rfl) (holds_one hc) h
theorem runs117 : RunsTo 117 130 := fun w ob data vm R hc h =>
  calls_tail (c := Tryz.f88.body.getD .skip) 20000 w Tryz.func88 (by kernel_rfl) 612 Tryz.ntmps88 (show 3 ≤ 612 by omega) 6 Tryz.results88 [.int .u8 117] 130 #[.pointer (some ⟨ob, 0, none⟩), data, vm] [(⟨ob, 0, none⟩, .int .u8 117)] (by kernel_rfl) (fun v n => by kernel_rfl) (holds_one hc) h
theorem runs118 : RunsTo 118 131 := fun w ob data vm R hc h =>
  calls_tail (c := Tryz.f88.body.getD .skip) 20000 w Tryz.func88 (by kernel_rfl) 612 Tryz.ntmps88 (show 3 ≤ 612 by omega) 6 Tryz.results88 [.int .u8 118] 131 #[.pointer (some ⟨ob, 0, none⟩), data, vm] [(⟨ob, 0, none⟩, .int .u8 118)] (by kernel_rfl) (fun v n => by kernel_rfl) (holds_one hc) h
theorem runs136 : RunsTo 136 142 := fun w ob data vm R hc h =>
  calls_tail (c := Tryz.f88.body.getD .skip) 20000 w Tryz.func88 (by kernel_rfl) 612 Tryz.ntmps88 (show 3 ≤ 612 by omega) 6 Tryz.results88 [.int .u8 136] 142 #[.pointer (some ⟨ob, 0, none⟩), data, vm] [(⟨ob, 0, none⟩, .int .u8 136)] (by kernel_rfl) (fun v n => by kernel_rfl) (holds_one hc) h
theorem runs169 : RunsTo 169 166 := fun w ob data vm R hc h =>
  calls_tail (c := Tryz.f88.body.getD .skip) 20000 w Tryz.func88 (by kernel_rfl) 612 Tryz.ntmps88 (show 3 ≤ 612 by omega) 6 Tryz.results88 [.int .u8 169] 166 #[.pointer (some ⟨ob, 0, none⟩), data, vm] [(⟨ob, 0, none⟩, .int .u8 169)] (by kernel_rfl) (fun v n => by kernel_rfl) (holds_one hc) h
theorem runs172 : RunsTo 172 169 := fun w ob data vm R hc h =>
  calls_tail (c := Tryz.f88.body.getD .skip) 20000 w Tryz.func88 (by kernel_rfl) 612 Tryz.ntmps88 (show 3 ≤ 612 by omega) 6 Tryz.results88 [.int .u8 172] 169 #[.pointer (some ⟨ob, 0, none⟩), data, vm] [(⟨ob, 0, none⟩, .int .u8 172)] (by kernel_rfl) (fun v n => by kernel_rfl) (holds_one hc) h
theorem runs177 : RunsTo 177 118 := fun w ob data vm R hc h =>
  calls_tail (c := Tryz.f88.body.getD .skip) 20000 w Tryz.func88 (by kernel_rfl) 612 Tryz.ntmps88 (show 3 ≤ 612 by omega) 6 Tryz.results88 [.int .u8 177] 118 #[.pointer (some ⟨ob, 0, none⟩), data, vm] [(⟨ob, 0, none⟩, .int .u8 177)] (by kernel_rfl) (fun v n => by kernel_rfl) (holds_one hc) h
theorem runs_push_a (v : Nat) (h1 : 1 ≤ v) (h2 : v ≤ 26) : RunsTo v 107 := by
  rcases (show v = 1 ∨ v = 2 ∨ v = 3 ∨ v = 4 ∨ v = 5 ∨ v = 6 ∨ v = 7 ∨ v = 8 ∨ v = 9 ∨ v = 10 ∨ v = 11 ∨ v = 12 ∨ v = 13 ∨ v = 14 ∨ v = 15 ∨ v = 16 ∨ v = 17 ∨ v = 18 ∨ v = 19 ∨ v = 20 ∨ v = 21 ∨ v = 22 ∨ v = 23 ∨ v = 24 ∨ v = 25 ∨ v = 26 by omega) with rfl | rfl | rfl | rfl | rfl | rfl | rfl | rfl | rfl | rfl | rfl | rfl | rfl | rfl | rfl | rfl | rfl | rfl | rfl | rfl | rfl | rfl | rfl | rfl | rfl | rfl
  · exact runs1
  · exact runs2
  · exact runs3
  · exact runs4
  · exact runs5
  · exact runs6
  · exact runs7
  · exact runs8
  · exact runs9
  · exact runs10
  · exact runs11
  · exact runs12
  · exact runs13
  · exact runs14
  · exact runs15
  · exact runs16
  · exact runs17
  · exact runs18
  · exact runs19
  · exact runs20
  · exact runs21
  · exact runs22
  · exact runs23
  · exact runs24
  · exact runs25
  · exact runs26
theorem runs_push_b (v : Nat) (h1 : 27 ≤ v) (h2 : v ≤ 52) : RunsTo v 107 := by
  rcases (show v = 27 ∨ v = 28 ∨ v = 29 ∨ v = 30 ∨ v = 31 ∨ v = 32 ∨ v = 33 ∨ v = 34 ∨ v = 35 ∨ v = 36 ∨ v = 37 ∨ v = 38 ∨ v = 39 ∨ v = 40 ∨ v = 41 ∨ v = 42 ∨ v = 43 ∨ v = 44 ∨ v = 45 ∨ v = 46 ∨ v = 47 ∨ v = 48 ∨ v = 49 ∨ v = 50 ∨ v = 51 ∨ v = 52 by omega) with rfl | rfl | rfl | rfl | rfl | rfl | rfl | rfl | rfl | rfl | rfl | rfl | rfl | rfl | rfl | rfl | rfl | rfl | rfl | rfl | rfl | rfl | rfl | rfl | rfl | rfl
  · exact runs27
  · exact runs28
  · exact runs29
  · exact runs30
  · exact runs31
  · exact runs32
  · exact runs33
  · exact runs34
  · exact runs35
  · exact runs36
  · exact runs37
  · exact runs38
  · exact runs39
  · exact runs40
  · exact runs41
  · exact runs42
  · exact runs43
  · exact runs44
  · exact runs45
  · exact runs46
  · exact runs47
  · exact runs48
  · exact runs49
  · exact runs50
  · exact runs51
  · exact runs52
theorem runs_push_c (v : Nat) (h1 : 53 ≤ v) (h2 : v ≤ 78) : RunsTo v 107 := by
  rcases (show v = 53 ∨ v = 54 ∨ v = 55 ∨ v = 56 ∨ v = 57 ∨ v = 58 ∨ v = 59 ∨ v = 60 ∨ v = 61 ∨ v = 62 ∨ v = 63 ∨ v = 64 ∨ v = 65 ∨ v = 66 ∨ v = 67 ∨ v = 68 ∨ v = 69 ∨ v = 70 ∨ v = 71 ∨ v = 72 ∨ v = 73 ∨ v = 74 ∨ v = 75 ∨ v = 76 ∨ v = 77 ∨ v = 78 by omega) with rfl | rfl | rfl | rfl | rfl | rfl | rfl | rfl | rfl | rfl | rfl | rfl | rfl | rfl | rfl | rfl | rfl | rfl | rfl | rfl | rfl | rfl | rfl | rfl | rfl | rfl
  · exact runs53
  · exact runs54
  · exact runs55
  · exact runs56
  · exact runs57
  · exact runs58
  · exact runs59
  · exact runs60
  · exact runs61
  · exact runs62
  · exact runs63
  · exact runs64
  · exact runs65
  · exact runs66
  · exact runs67
  · exact runs68
  · exact runs69
  · exact runs70
  · exact runs71
  · exact runs72
  · exact runs73
  · exact runs74
  · exact runs75
  · exact runs76
  · exact runs77
  · exact runs78
theorem runs_push (v : Nat) (h1 : 1 ≤ v) (h2 : v ≤ 78) : RunsTo v 107 := by
  by_cases ha : v ≤ 26
  · exact runs_push_a v h1 ha
  · by_cases hb : v ≤ 52
    · exact runs_push_b v (by omega) hb
    · exact runs_push_c v (by omega) h2
theorem runs_n (v : Nat) (h1 : 81 ≤ v) (h2 : v ≤ 96) : RunsTo v 110 := by
  rcases (show v = 81 ∨ v = 82 ∨ v = 83 ∨ v = 84 ∨ v = 85 ∨ v = 86 ∨ v = 87 ∨ v = 88 ∨ v = 89 ∨ v = 90 ∨ v = 91 ∨ v = 92 ∨ v = 93 ∨ v = 94 ∨ v = 95 ∨ v = 96 by omega) with rfl | rfl | rfl | rfl | rfl | rfl | rfl | rfl | rfl | rfl | rfl | rfl | rfl | rfl | rfl | rfl
  · exact runs81
  · exact runs82
  · exact runs83
  · exact runs84
  · exact runs85
  · exact runs86
  · exact runs87
  · exact runs88
  · exact runs89
  · exact runs90
  · exact runs91
  · exact runs92
  · exact runs93
  · exact runs94
  · exact runs95
  · exact runs96
end Go.Proofs.YtkgihpebghmnbaaGreatDoor
