/- SHA-256: the block function of the digest. -/
import Derived.Test.YtkgihpebghmnbaaGreatDoorShaOut
namespace Go.Proofs.YtkgihpebghmnbaaGreatDoor
open Go.RowKit Go.Proofs

set_option maxRecDepth 100000

/-- The state of a hash. -/
structure Sh where
  r : R8
  x : List UInt8
  nx : Nat
  len : Nat
def Sh.cells (s : Sh) : List Value := [.int .u32 s.r.a, .int .u32 s.r.b, .int .u32 s.r.c, .int .u32 s.r.d, .int .u32 s.r.e, .int .u32 s.r.f, .int .u32 s.r.g, .int .u32 s.r.h] ++ (bv s.x ++ [.int .i64 s.nx, .int .u64 s.len, .bool false])
/-- Block d is a hash of this state. -/
def Dg (w : World) (d : Nat) (s : Sh) : Prop := Blk w d 204 s.cells.toArray ∧ s.x.length = 64

theorem cells_set8 (s : Sh) (R : R8) : ((((((((s.cells.toArray.setIfInBounds 0 (.int .u32 R.a)).setIfInBounds 1 (.int .u32 R.b)).setIfInBounds 2 (.int .u32 R.c)).setIfInBounds 3 (.int .u32 R.d)).setIfInBounds 4 (.int .u32 R.e)).setIfInBounds 5 (.int .u32 R.f)).setIfInBounds 6 (.int .u32 R.g)).setIfInBounds 7 (.int .u32 R.h)) = ({ s with r := R } : Sh).cells.toArray := by
  simp [Sh.cells]

/-- The table of the rounds' numbers. -/
def KT (kc : Nat → Int) (w : World) : Prop := ∀ i, i < 64 → w.cell? ⟨3, i, none⟩ = some (.int .u32 (kc i))

set_option maxHeartbeats 4000000 in
theorem block_any (kc : Nat → Int) (w : World) (d b o N q cx : Nat) (s : Sh) (p : Nat → Nat) (hq : q < 64) (hd : Dg w d s) (hk : KT kc w) (hp : ∀ j, j < 64 * N → w.cell? ⟨b, o + j, none⟩ = some (.int .u8 (p j))) (hb : b < w.heap.size) (_hG : 3 ≠ d) :
    Calls Tryz.prog 178 #[.pointer (some ⟨d, 0, none⟩), .slice (some ⟨b, o, none⟩) (64 * N + q) (64 * N + q + cx)] w fun e w' => e = .returned (.tuple #[]) ∧ Dg w' d { s with r := (blks kc p (fun _ => 0, s.r) N).2 } ∧ Fm (M1 d) w w' := by
  have hgl : 3 < w.heap.size := World.block_lt_of_cell? w _ (hk 0 (by omega))
  have HX := Lib.hid hd.2
  have HKT := Lib.hid hk
  have HP := Lib.hid hp
  go_enter Tryz.func178, Tryz.ntmps178
  go_wp2_with (refine wpList_alloc 349 rfl rfl (Array.replicate 64 (.int .u32 0)) (by kernel_rfl) ?_; refine Stop.mk ?_)
  refine Stop.go ?_
  have hdb : Below w.heap.size w (w.alloc (.cells (Array.replicate 64 (.int .u32 0)) 349)) := (Below.refl _ _).alloc (Nat.le_refl _) _
  have hwb := Blk.new w 349 (Array.replicate 64 (.int .u32 0))
  have hd1 := hd.1.below hdb hd.1.lt
  have hdl := hd.1.lt
  generalize hwbe : w.heap.size = wb at *
  generalize w.alloc (.cells (Array.replicate 64 (.int .u32 0)) 349) = w1 at *
  have c0 := hd1.cell 0
  change _ = some (Value.int .u32 s.r.a) at c0
  have c1 := hd1.cell 1
  change _ = some (Value.int .u32 s.r.b) at c1
  have c2 := hd1.cell 2
  change _ = some (Value.int .u32 s.r.c) at c2
  have c3 := hd1.cell 3
  change _ = some (Value.int .u32 s.r.d) at c3
  have c4 := hd1.cell 4
  change _ = some (Value.int .u32 s.r.e) at c4
  have c5 := hd1.cell 5
  change _ = some (Value.int .u32 s.r.f) at c5
  have c6 := hd1.cell 6
  change _ = some (Value.int .u32 s.r.g) at c6
  have c7 := hd1.cell 7
  change _ = some (Value.int .u32 s.r.h) at c7
  have HWB : Hid (Ws w1 wb (fun _ => 0)) := ⟨_, hwb, by simp, fun q hq => by simp [hq]⟩
  have HD1 := Lib.hid hd1
  have HDB := Lib.hid hdb
  clear hwb hd1 hdb hd hk hp
  go_wp2_with fail
  go_quiet (fail)
  go_wp2_with fail
  clear c0 c1 c2 c3 c4 c5 c6 c7
  refine wp_loop_rounds (N + 1) ?_
  have kp : ∀ (a : Addr) (u : Value), w.cell? a = some u → (w1.drewN nq).cell? a = some u := fun a u hu => (World.cell?_of_block (w := w) (HDB.out.block _ (by rw [← hwbe]; exact World.block_lt_of_cell? w _ hu))).trans hu
  refine oloop kc p (fun _ => 0, s.r) (w1.drewN nq) d wb b o N (by omega) (by omega) (fun i hi => kp _ _ (HKT.out i hi)) (fun j hj => kp _ _ (HP.out j hj)) q cx hq _ _ _ _ _ _ _ _ _ _ _ _ _ _ _ _ _ _ _ _ _ _ _ _ _ _ _ _ _ _ _ _ _ _ _ _ _ _ _ _ _ _ _ _ _ _ _ _ _ _ _ _ _ _ _ _ _ _ _ _ _ _ _ _ _ _ _ _ _ _ _ _ _ _ _ _ _ _ _ _ _ _ _ ?_ N _ 0 s.r o _ _ _ _ _ _ _ _ _ _ _ _ _ _ _ _ _ _ _ _ _ _ _ _ _ _ _ _ _ _ _ _ _ _ _ _ _ _ _ _ _ _ _ _ _ _ _ _ _ _ _ _ _ _ _ _ _ _ _ _ _ _ _ _ _ _ _ _ _ _ _ _ _ _ _ _ _ _ _ _ _ _ _ _ _ _ _ _ _ _ _ _ _ _ _ _ _ _ _ _ _ _ _ _ _ _ _ _ _ _ _ _ _ _ _ _ _ _ _ _ _ _ _ _ _ _ _ _ _ _ _ _ _ _ _ _ _ _ _ _ _ _ _ _ _ _ _ _ _ _ _ _ _ _ _ _ _ _ _ _ _ _ _ _ _ _ _ _ _ _ _ _ _ _ _ _ _ _ _ _ _ _ _ _ _ _ _ _ _ _ _ _ (by omega) rfl (fun _ => by omega) rfl rfl (show Ws w1 wb (fun _ => 0) from HWB.out) (Fm.refl _ _)
  intro w3 oN v13 v14 v15 v16 v17 v18 v19 v20 v21 v22 v23 v24 v25 v26 v27 v28 v69 v70 v71 v72 v73 v74 v75 v76 v77 v78 v79 v80 v81 v82 v83 v84 v85 v86 v87 v88 v89 v90 v91 v92 v93 v94 v95 v96 v97 v98 v99 v100 v101 v102 v103 v104 v105 v106 v107 v108 v109 v110 v111 v112 v113 v114 v115 v116 v117 v118 v119 v120 v121 v122 v123 v124 v125 v126 v127 v128 v129 v130 v131 v132 v133 v134 v135 v136 v137 v138 v139 v140 v141 v142 v143 v144 v145 v146 v147 v148 v149 v150 v151 v152 v153 v154 v155 v156 v157 v158 v159 v160 v161 v162 v163 v164 v165 v166 v167 v168 v169 v170 v171 v172 v173 v174 v175 v176 v177 v178 v179 v180 v181 v182 v183 v184 v185 v186 v187 v188 v189 v190 v191 v192 v193 v194 v195 v196 v197 v198 v199 v200 v201 v202 v203 v204 v205 v206 v207 v208 v209 v210 v211 v212 v213 v214 v215 v216 v217 v218 v219 v220 v221 v222 v223 v224 v225 v226 v227 v228 v229 v230 v231 v232 v233 v234 v235 v236 v237 v238 v239 v240 v241 v242 hw3 hf3
  have hd3 := HD1.out.fm (w := w1) (w' := w3) (M := M1 wb) ⟨hf3.os, hf3.tape, hf3.output, hf3.size, hf3.block⟩ (by show ¬ d = wb; omega)
  have e0 := hd3.cell 0
  change _ = some (Value.int .u32 s.r.a) at e0
  have e1 := hd3.cell 1
  change _ = some (Value.int .u32 s.r.b) at e1
  have e2 := hd3.cell 2
  change _ = some (Value.int .u32 s.r.c) at e2
  have e3 := hd3.cell 3
  change _ = some (Value.int .u32 s.r.d) at e3
  have e4 := hd3.cell 4
  change _ = some (Value.int .u32 s.r.e) at e4
  have e5 := hd3.cell 5
  change _ = some (Value.int .u32 s.r.f) at e5
  have e6 := hd3.cell 6
  change _ = some (Value.int .u32 s.r.g) at e6
  have e7 := hd3.cell 7
  change _ = some (Value.int .u32 s.r.h) at e7
  have hfz := hd3.frozen
  have HD3 := Lib.hid hd3
  have HF3 : Hid (Fm (M1 d) w w3) := by
    refine ⟨hf3.os.trans HDB.out.os, hf3.tape.trans HDB.out.tape, hf3.output.trans HDB.out.output, Nat.le_trans HDB.out.size hf3.size, fun k hk hn => ?_⟩
    exact (hf3.block k (Nat.lt_of_lt_of_le hk HDB.out.size) (by show ¬ k = wb; omega)).trans (HDB.out.block k (by omega))
  clear hd3 hw3 hf3 HWB HD1 HDB HP HKT kp
  generalize hRR : (blks kc p (fun _ => 0, s.r) N).2 = R at *
  go_wp2_with fail
  go_region_held3 (fun _ => True) ((trivial)) (fail)
  have h8 := (((((((HD3.out.set_ 0 (.int .u32 R.a)).set_ 1 (.int .u32 R.b)).set_ 2 (.int .u32 R.c)).set_ 3 (.int .u32 R.d)).set_ 4 (.int .u32 R.e)).set_ 5 (.int .u32 R.f)).set_ 6 (.int .u32 R.g)).set_ 7 (.int .u32 R.h)
  rw [cells_set8] at h8
  have f8 := ((((((((HF3.out.set1 0 (.int .u32 R.a)).set1 1 (.int .u32 R.b)).set1 2 (.int .u32 R.c)).set1 3 (.int .u32 R.d)).set1 4 (.int .u32 R.e)).set1 5 (.int .u32 R.f)).set1 6 (.int .u32 R.g)).set1 7 (.int .u32 R.h)).drew
  go_end0
  subst hRR
  exact ⟨rfl, ⟨h8.drew, HX.out⟩, f8⟩
end Go.Proofs.YtkgihpebghmnbaaGreatDoor
