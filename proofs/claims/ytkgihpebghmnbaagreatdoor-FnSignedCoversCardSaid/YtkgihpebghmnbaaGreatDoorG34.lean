/- The check of a signature: parsed, held against the hash. (Printed by gen_csg.py.) CHECKSIG. (Printed by gen_csv.py.) -/
import Derived.Test.YtkgihpebghmnbaaGreatDoorG30
import Derived.Test.YtkgihpebghmnbaaGreatDoorG25
import Derived.Test.YtkgihpebghmnbaaGreatDoorG31
import Derived.Test.YtkgihpebghmnbaaGreatDoorG33
import Derived.StillTailTactics
import Derived.Test.YtkgihpebghmnbaaGreatDoorG15
namespace Go.Proofs.YtkgihpebghmnbaaGreatDoor
open Go.RowKit Go.Proofs

set_option maxRecDepth 100000

/-- The rules that let a signature's form be checked; none on low halves, on witnesses' keys, on constant scripts. -/
structure FlS (fl : Int) (st de nf : Bool) : Prop where
  st : Flag fl 2048 st
  de : Flag fl 64 de
  nf : Flag fl 512 nf
  lo : Flag fl 128 false
  wk : Flag fl 32768 false
  co : Flag fl 1048576 false

theorem sigB_len (m0 m1 m2 m3 k : UInt8) : (sigB m0 m1 m2 m3 k).length = 13 := rfl

set_option maxHeartbeats 2000000 in
theorem parseBase_any (w : World) (g kb ko kx sb so sx : Nat) (fl b : Int) (st de nf : Bool) (key : List UInt8) (k0 : Nat) (m0 m1 m2 m3 k : UInt8) (h0 : w.cell? ⟨g, 0, none⟩ = some (.int .u32 fl)) (hf : FlS fl st de nf)
    (hkey : Rd 0 w (.slice (some ⟨kb, ko, none⟩) 33 kx) key) (hk0 : w.cell? ⟨kb, ko, none⟩ = some (.int .u8 k0)) (hk : k0 = 2 ∨ k0 = 3) (hsig : Rd 0 w (.slice (some ⟨sb, so, none⟩) 13 sx) (sigB m0 m1 m2 m3 k))
    (hb : bits .and .u32 k.toNat 4294967167 = b) (h1 : 1 ≤ b) (h3 : b ≤ 3) :
    Calls Tryz.prog 232 #[.slice (some ⟨kb, ko, none⟩) 33 kx, .slice (some ⟨sb, so, none⟩) 13 sx, .pointer (some ⟨g, 0, none⟩)] w fun e w' =>
      ∃ pk sg, e = .returned (.tuple #[.pointer (some ⟨pk, 0, none⟩), .pointer (some ⟨sg, 0, none⟩), .int .u32 k.toNat, .nilIface]) ∧ Own1 w' pk 289 key ∧ Own1 w' sg 287 [48, 10, 2, 1, 1, 2, 5, 1, m0, m1, m2, m3] ∧ Below w.heap.size w w' := by
  have hsx := hsig.len.2
  have hsp : Rd 0 w (.slice (some ⟨sb, so, none⟩) 12 sx) [48, 10, 2, 1, 1, 2, 5, 1, m0, m1, m2, m3] := hsig.part 0 12 sx (by omega) (by omega)
  obtain ⟨sb', so', es, hc12⟩ := hsig.cell (j := 12) (by omega)
  injection es with es
  injection es with es1 es2
  subst es1; subst es2
  change w.cell? ⟨sb, so + 12, none⟩ = some (.int .u8 k.toNat) at hc12
  have HS := Lib.hid (hasFlag_any w g fl 2048 _ hf.st h0)
  have HD := Lib.hid (hasFlag_any w g fl 64 _ hf.de h0)
  have HK := Lib.hid (checkKind_any w g fl k.toNat b st h0 hf.st hb h1 h3)
  have HE := Lib.hid (checkSig_enc w g sb so sx fl st de m0 m1 m2 m3 h0 hf.st hf.de hf.lo k (Cells.of_rd hsig))
  have HQ := Lib.hid (checkKey_any w g kb ko kx fl st k0 h0 hf.st hf.wk hk0 hk)
  have HP := Lib.hid (parseKey_any w 0 kb ko kx key k0 hkey hk0 hk)
  have HSP := Lib.hid hsp
  have hku : (k.toNat : Int) % 4294967296 = k.toNat := by have := k.toNat_lt; omega
  have hku2 : (k.toNat : Int) % 256 = k.toNat := by have := k.toNat_lt; omega
  clear hf hkey hsig hsp hb
  go_enter Tryz.func232, Tryz.ntmps232
  go_wp2_with fail
  refine HS.out.mono ?_
  rintro e w1 ⟨rfl, rfl⟩
  have hTail : ∀ (x : Bool), True := fun _ => trivial
  cases st
  · go_wp2_with fail
    refine HD.out.mono ?_
    rintro e w1 ⟨rfl, rfl⟩
    cases de
    all_goals
      go_wp2_with fail
      refine HK.out.mono ?_
      rintro e w1 ⟨rfl, rfl⟩
      go_wp2_with fail
      refine HE.out.mono ?_
      rintro e w1 ⟨rfl, rfl⟩
      go_wp2_with fail
      refine HQ.out.mono ?_
      rintro e w1 ⟨rfl, rfl⟩
      go_wp2_with fail
      refine HP.out.mono ?_
      rintro e w1 ⟨pk, rfl, hpk, ho1, hb1⟩
      have HD1 := Lib.hid (parseDER_any w1 0 12 sx _ _ (HSP.out.below hb1) (by omega) (by omega))
      have HP1 := Lib.hid (parseSig_any w1 0 12 sx _ _ (HSP.out.below hb1) (by omega) (by omega))
      have HO1 := Lib.hid ho1
      have HB1 := Lib.hid hb1
      clear ho1 hb1
      go_wp2_with fail
      first
        | refine HP1.out.mono ?_
        | refine HD1.out.mono ?_
      rintro e w2 ⟨sg, rfl, hsg, ho2, hb2⟩
      have HO2 := Lib.hid ho2
      have HO3 := Lib.hid (HO1.out.below hb2)
      have HB2 := Lib.hid (HB1.out.trans (hb2.mono HB1.out.size))
      clear ho2 hb2
      go_wp2
      refine bodyPost_ret (v := .tuple #[.pointer (some ⟨pk, 0, none⟩), .pointer (some ⟨sg, 0, none⟩), .int .u32 k.toNat, .nilIface]) (by simp [results, Tryz.results232, go_sem]) rfl ?_
      exact ⟨pk, sg, rfl, HO3.out, HO2.out, HB2.out⟩
  · go_wp2_with fail
    refine HK.out.mono ?_
    rintro e w1 ⟨rfl, rfl⟩
    go_wp2_with fail
    refine HE.out.mono ?_
    rintro e w1 ⟨rfl, rfl⟩
    go_wp2_with fail
    refine HQ.out.mono ?_
    rintro e w1 ⟨rfl, rfl⟩
    go_wp2_with fail
    refine HP.out.mono ?_
    rintro e w1 ⟨pk, rfl, hpk, ho1, hb1⟩
    have HD1 := Lib.hid (parseDER_any w1 0 12 sx _ _ (HSP.out.below hb1) (by omega) (by omega))
    have HO1 := Lib.hid ho1
    have HB1 := Lib.hid hb1
    clear ho1 hb1
    go_wp2_with fail
    refine HD1.out.mono ?_
    rintro e w2 ⟨sg, rfl, hsg, ho2, hb2⟩
    have HO2 := Lib.hid ho2
    have HO3 := Lib.hid (HO1.out.below hb2)
    have HB2 := Lib.hid (HB1.out.trans (hb2.mono HB1.out.size))
    clear ho2 hb2
    go_wp2
    refine bodyPost_ret (v := .tuple #[.pointer (some ⟨pk, 0, none⟩), .pointer (some ⟨sg, 0, none⟩), .int .u32 k.toNat, .nilIface]) (by simp [results, Tryz.results232, go_sem]) rfl ?_
    exact ⟨pk, sg, rfl, HO3.out, HO2.out, HB2.out⟩

/-- The cells of a verifier. -/
def vfCells (g pk sg kb ko kx sb so sx : Nat) (sub : Value) (k : Int) : Array Value := #[.pointer (some ⟨g, 0, none⟩), .pointer (some ⟨pk, 0, none⟩), .pointer (some ⟨sg, 0, none⟩), .slice (some ⟨sb, so, none⟩) 13 sx, .slice (some ⟨sb, so, none⟩) 12 sx, .slice (some ⟨kb, ko, none⟩) 33 kx, sub, .int .u32 k]

set_option maxHeartbeats 2000000 in
theorem newBase_any (w : World) (g kb ko kx sb so sx scb si n c : Nat) (A : Option Addr) (fl b : Int) (st de nf : Bool) (key : List UInt8) (k0 : Nat) (m0 m1 m2 m3 k : UInt8) (h0 : w.cell? ⟨g, 0, none⟩ = some (.int .u32 fl)) (hf : FlS fl st de nf)
    (hkey : Rd 0 w (.slice (some ⟨kb, ko, none⟩) 33 kx) key) (hk0 : w.cell? ⟨kb, ko, none⟩ = some (.int .u8 k0)) (hk : k0 = 2 ∨ k0 = 3) (hsig : Rd 0 w (.slice (some ⟨sb, so, none⟩) 13 sx) (sigB m0 m1 m2 m3 k))
    (hb : bits .and .u32 k.toNat 4294967167 = b) (h1 : 1 ≤ b) (h3 : b ≤ 3) (hsi : si < 2) (h11 : w.cell? ⟨g, 11, none⟩ = some (.slice (some ⟨scb, 0, none⟩) 2 2)) (h12 : w.cell? ⟨g, 12, none⟩ = some (.int .i64 si)) (h14 : w.cell? ⟨g, 14, none⟩ = some (.int .i64 0))
    (hsc : w.cell? ⟨scb, si, none⟩ = some (.slice A n c)) (hnc : n ≤ c) :
    Calls Tryz.prog 211 #[.slice (some ⟨kb, ko, none⟩) 33 kx, .slice (some ⟨sb, so, none⟩) 13 sx, .pointer (some ⟨g, 0, none⟩)] w fun e w' =>
      ∃ V pk sg, e = .returned (.tuple #[.pointer (some ⟨V, 0, none⟩), .nilIface]) ∧ Blk w' V 269 (vfCells g pk sg kb ko kx sb so sx (.slice A n c) k.toNat) ∧ Own1 w' pk 289 key ∧ Own1 w' sg 287 [48, 10, 2, 1, 1, 2, 5, 1, m0, m1, m2, m3] ∧ Below w.heap.size w w' := by
  have hsx := hsig.len.2
  have HP := Lib.hid (parseBase_any w g kb ko kx sb so sx fl b st de nf key k0 m0 m1 m2 m3 k h0 hf hkey hk0 hk hsig hb h1 h3)
  have H11 := Lib.hid h11
  have H12 := Lib.hid h12
  have H14 := Lib.hid h14
  have HSC := Lib.hid hsc
  clear h0 hf hkey hk0 hk hsig hb h11 h12 h14 hsc
  go_enter Tryz.func211, Tryz.ntmps211
  go_wp2_with fail
  refine HP.out.mono ?_
  rintro e w1 ⟨pk, sg, rfl, ho1, ho2, hb1⟩
  have HS := Lib.hid (subScript_any w1 g scb si n c A hsi (cell_keep hb1 H11.out) (cell_keep hb1 H12.out) (cell_keep hb1 H14.out) (cell_keep hb1 HSC.out) hnc)
  have HO1 := Lib.hid ho1
  have HO2 := Lib.hid ho2
  have HB1 := Lib.hid hb1
  clear ho1 ho2 hb1 HP
  go_wp2_with fail
  refine HS.out.mono ?_
  rintro e w2 ⟨rfl, q, rfl⟩
  have hV := Blk.new (w1.drewN q) 269 (vfCells g pk sg kb ko kx sb so sx (.slice A n c) k.toNat)
  have hbq : Below w1.heap.size w1 ((w1.drewN q).alloc (.cells (vfCells g pk sg kb ko kx sb so sx (.slice A n c) k.toNat) 269)) := Below.alloc (⟨rfl, rfl, rfl, Nat.le_refl _, fun _ _ => rfl⟩ : Below w1.heap.size w1 (w1.drewN q)) (Nat.le_refl _) _
  have HV := Lib.hid hV
  have HA := Lib.hid (HO1.out.below hbq)
  have HZ := Lib.hid (HO2.out.below hbq)
  have HB2 := Lib.hid (HB1.out.trans (hbq.mono HB1.out.size))
  clear hV hbq HO1 HO2 HB1 HS
  go_wp2
  go_ret2
  exact ⟨_, pk, sg, rfl, HV.out, HA.out, HZ.out, HB2.out⟩

theorem exec_slice_lo {P : Program} {ρ : Operand → Value} {o : Oper} {w : World} (ty : TypeId) (x y : Operand) {v lo u : Value} (ho : o.op = .slice ty x (some y) none none) (hx : ρ x = v) (hy : ρ y = lo) (hr : (Instr.sliceAt ty v (some lo) none none).run P w = .ok u w) : (execOp ρ o).run P w = .ok (.value u) w := by
  unfold execOp
  simp only [ho, hx, hy, Option.map_some, Option.map_none, Sem.run_bind, Sem.run_pure, Result.andThen_ok, hr]
theorem exec_conv {P : Program} {ρ : Operand → Value} {o : Oper} {w : World} (s d : TypeId) (x : Operand) {v u : Value} (ho : o.op = .convert s d x) (hx : ρ x = v) (hr : (convert s d v).run P w = .ok u w) : (execOp ρ o).run P w = .ok (.value u) w := by
  unfold execOp
  simp only [ho, hx, Sem.run_bind, Sem.run_pure, Result.andThen_ok, hr]
theorem exec_bin {P : Program} {ρ : Operand → Value} {o : Oper} {w : World} (b : BinOp) (t t' : TypeId) (x y : Operand) {v u r : Value} (ho : o.op = .binOp b t x y t') (hx : ρ x = v) (hy : ρ y = u) (hg : (eqGuard b t x y v u).run P w = .ok () w) (hr : (binOp b t v u).run P w = .ok r w) : (execOp ρ o).run P w = .ok (.value r) w := by
  unfold execOp
  simp only [ho, hx, hy, hg, Sem.run_bind, Sem.run_pure, Result.andThen_ok, hr]
theorem slice8 (w : World) (x y cs : Nat) (h : 12 ≤ cs) : (Instr.sliceAt 30 (.slice (some ⟨x, y, none⟩) 12 cs) (some (.int .i64 8)) none none).run Tryz.prog w = .ok (.slice (some ⟨x, y + 8, none⟩) 4 (cs - 8)) w := by
  have hc8 : ¬ (cs = 8) := by omega
  have hl : (12 : Int) ≤ cs := by omega
  go_simp

set_option maxHeartbeats 2000000 in
theorem sigVerify_any (kc : Nat → Int) (w : World) (sg pk n c : Nat) (A : Option Addr) (hash key sig : List UInt8) (hK : KT kc w) (hs : Own1 w sg 287 sig) (hp : Own1 w pk 289 key) (hh : Cells w A n (bv hash)) (hsl : sig.length = 12) (hkl : key.length = 33) (hn : n ≤ 100000) :
    Calls Tryz.prog 223 #[.pointer (some ⟨sg, 0, none⟩), .slice A n c, .pointer (some ⟨pk, 0, none⟩)] w fun e w' => e = .returned (.bool (sig.drop 8 == (sha kc (hash ++ key)).take 4)) ∧ Below w.heap.size w w' := by
  obtain ⟨As, cs, hS, hso⟩ := hs
  obtain ⟨Ak, ck, hP, hko⟩ := hp
  rw [hsl] at hS hso
  rw [hkl] at hP hko
  have hcs := own_cap hso
  obtain ⟨x, y, rfl, hsc⟩ := (Cells.of_own hso).2 (by omega)
  have hcells : Cells w (some ⟨x, y + 8, none⟩) 4 (bv (sig.drop 8)) := ⟨by simp [bv_length, hsl], fun _ => ⟨x, y + 8, rfl, fun j u hu => by
    rw [Nat.add_assoc]
    refine hsc (8 + j) u ?_
    rw [bv_get] at hu ⊢
    rw [List.getElem?_drop] at hu
    exact hu⟩⟩
  have s0 : w.drew.cell? ⟨sg, 0, none⟩ = some (Value.slice (some ⟨x, y, none⟩) 12 cs) := hS.cell 0
  have p0 : w.drew.cell? ⟨pk, 0, none⟩ = some (Value.slice Ak 33 ck) := hP.cell 0
  have hs1 : ∀ w : World, Cells w (some ⟨x, y + 8, none⟩) 4 (bv (sig.drop 8)) → (convert 30 9 (.slice (some ⟨x, y + 8, none⟩) 4 (cs - 8))).run Tryz.prog w = .ok (.string ⟨(sig.drop 8).toArray⟩) w := fun w h => str_of h
  have hcd : Cells w.drew (some ⟨x, y + 8, none⟩) 4 (bv (sig.drop 8)) := hcells
  have HM := Lib.hid (mark_any kc w.drew A Ak n 33 c ck hash key (show KT kc w.drew from hK) (show Cells w.drew A n _ from hh) (show Cells w.drew Ak 33 _ from Cells.of_own hko) (by omega))
  have hw8 : IntKind.i64.wrap 8 = 8 := by decide
  have hc8 : ¬ (cs = 8) := by omega
  clear hK hS hso hP hko hh hsc hs1
  go_enter Tryz.func223, Tryz.ntmps223
  go_upto_region 1 with fail
  refine wp_region_f_drew (S := (fun w' => w'.cell? ⟨sg, 0, none⟩ = some (.slice (some ⟨x, y, none⟩) 12 cs) ∧ w'.cell? ⟨pk, 0, none⟩ = some (.slice Ak 33 ck) ∧ Cells w' (some ⟨x, y + 8, none⟩) 4 (bv (sig.drop 8)))) (F := []) (by kernel_rfl) (⟨s0, p0, hcd⟩) (fun hHeld => ?_)
  refine f_take 0 7 (.pointer (some ⟨sg, 0, none⟩)) rfl rfl (by kernel_rfl) (by kernel_rfl) (by kernel_rfl) (by kernel_rfl) (fun _ _ _ h => h) (Or.inl ⟨wanted_plain rfl _, fun w hSw => by kernel_rfl⟩) (by assumption) ?_
  simp only [List.set_cons_zero, List.set_cons_succ]
  refine f_take 1 8 (.pointer (some ⟨sg, 0, none⟩)) rfl rfl (by kernel_rfl) (by kernel_rfl) (by kernel_rfl) (by kernel_rfl) (fun _ _ _ h => h) (Or.inl ⟨wanted_plain rfl _, fun w hSw => by kernel_rfl⟩) (by assumption) ?_
  simp only [List.set_cons_zero, List.set_cons_succ]
  refine f_take 2 9 (.pointer (some ⟨sg, 0, none⟩)) rfl rfl (by kernel_rfl) (by kernel_rfl) (by kernel_rfl) (by kernel_rfl) (fun _ _ _ h => h) (Or.inl ⟨wanted_plain rfl _, fun w hSw => by kernel_rfl⟩) (by assumption) ?_
  simp only [List.set_cons_zero, List.set_cons_succ]
  refine f_take 3 10 (.slice (some ⟨x, y, none⟩) 12 cs) rfl rfl (by kernel_rfl) (by kernel_rfl) (by kernel_rfl) (by kernel_rfl) (fun _ _ _ h => h) (Or.inl ⟨wanted_plain rfl _, fun w hSw => exec_load 30 (.tmp 9) rfl rfl (by (obtain ⟨g1, g2, g3⟩ := hSw; go_simp))⟩) (by assumption) ?_
  simp only [List.set_cons_zero, List.set_cons_succ]
  refine f_take 4 11 (.pointer (some ⟨sg, 0, none⟩)) rfl rfl (by kernel_rfl) (by kernel_rfl) (by kernel_rfl) (by kernel_rfl) (fun _ _ _ h => h) (Or.inl ⟨wanted_plain rfl _, fun w hSw => by kernel_rfl⟩) (by assumption) ?_
  simp only [List.set_cons_zero, List.set_cons_succ]
  refine f_take 5 12 (.pointer (some ⟨sg, 0, none⟩)) rfl rfl (by kernel_rfl) (by kernel_rfl) (by kernel_rfl) (by kernel_rfl) (fun _ _ _ h => h) (Or.inl ⟨wanted_plain rfl _, fun w hSw => by kernel_rfl⟩) (by assumption) ?_
  simp only [List.set_cons_zero, List.set_cons_succ]
  refine f_take 6 13 (.pointer (some ⟨sg, 0, none⟩)) rfl rfl (by kernel_rfl) (by kernel_rfl) (by kernel_rfl) (by kernel_rfl) (fun _ _ _ h => h) (Or.inl ⟨wanted_plain rfl _, fun w hSw => by kernel_rfl⟩) (by assumption) ?_
  simp only [List.set_cons_zero, List.set_cons_succ]
  refine f_take 7 14 (.slice (some ⟨x, y, none⟩) 12 cs) rfl rfl (by kernel_rfl) (by kernel_rfl) (by kernel_rfl) (by kernel_rfl) (fun _ _ _ h => h) (Or.inl ⟨wanted_plain rfl _, fun w hSw => exec_load 30 (.tmp 13) rfl rfl (by (obtain ⟨g1, g2, g3⟩ := hSw; go_simp))⟩) (by assumption) ?_
  simp only [List.set_cons_zero, List.set_cons_succ]
  refine f_take 8 15 (.int .i64 12) rfl rfl (by kernel_rfl) (by kernel_rfl) (by kernel_rfl) (by kernel_rfl) (fun _ _ _ h => h) (Or.inl ⟨wanted_plain rfl _, fun w hSw => by kernel_rfl⟩) (by assumption) ?_
  simp only [List.set_cons_zero, List.set_cons_succ]
  refine f_take 9 16 (.int .i64 8) rfl rfl (by kernel_rfl) (by kernel_rfl) (by kernel_rfl) (by kernel_rfl) (fun _ _ _ h => h) (Or.inl ⟨wanted_plain rfl _, fun w hSw => by kernel_rfl⟩) (by assumption) ?_
  simp only [List.set_cons_zero, List.set_cons_succ]
  refine f_take 10 17 (.slice (some ⟨x, y + 8, none⟩) 4 (cs - 8)) rfl rfl (by kernel_rfl) (by kernel_rfl) (by kernel_rfl) (by kernel_rfl) (fun _ _ _ h => h) (Or.inl ⟨wanted_plain rfl _, fun w hSw => exec_slice_lo 30 (.tmp 10) (.tmp 16) rfl rfl rfl (slice8 w x y cs hcs)⟩) (by assumption) ?_
  simp only [List.set_cons_zero, List.set_cons_succ]
  refine f_take 11 18 (.string ⟨(sig.drop 8).toArray⟩) rfl rfl (by kernel_rfl) (by kernel_rfl) (by kernel_rfl) (by kernel_rfl) (fun _ _ _ h => h) (Or.inl ⟨wanted_plain rfl _, fun w hSw => exec_conv 30 9 (.tmp 17) rfl rfl (str_of hSw.2.2)⟩) (by assumption) ?_
  simp only [List.set_cons_zero, List.set_cons_succ]
  refine f_take 12 19 (.slice A n c) rfl rfl (by kernel_rfl) (by kernel_rfl) (by kernel_rfl) (by kernel_rfl) (fun _ _ _ h => h) (Or.inl ⟨wanted_plain rfl _, fun w hSw => by kernel_rfl⟩) (by assumption) ?_
  simp only [List.set_cons_zero, List.set_cons_succ]
  refine f_take 13 20 (.pointer (some ⟨pk, 0, none⟩)) rfl rfl (by kernel_rfl) (by kernel_rfl) (by kernel_rfl) (by kernel_rfl) (fun _ _ _ h => h) (Or.inl ⟨wanted_plain rfl _, fun w hSw => by kernel_rfl⟩) (by assumption) ?_
  simp only [List.set_cons_zero, List.set_cons_succ]
  refine f_take 14 21 (.pointer (some ⟨pk, 0, none⟩)) rfl rfl (by kernel_rfl) (by kernel_rfl) (by kernel_rfl) (by kernel_rfl) (fun _ _ _ h => h) (Or.inl ⟨wanted_plain rfl _, fun w hSw => by kernel_rfl⟩) (by assumption) ?_
  simp only [List.set_cons_zero, List.set_cons_succ]
  refine f_take 15 22 (.pointer (some ⟨pk, 0, none⟩)) rfl rfl (by kernel_rfl) (by kernel_rfl) (by kernel_rfl) (by kernel_rfl) (fun _ _ _ h => h) (Or.inl ⟨wanted_plain rfl _, fun w hSw => by kernel_rfl⟩) (by assumption) ?_
  simp only [List.set_cons_zero, List.set_cons_succ]
  refine f_take 16 23 (.slice Ak 33 ck) rfl rfl (by kernel_rfl) (by kernel_rfl) (by kernel_rfl) (by kernel_rfl) (fun _ _ _ h => h) (Or.inl ⟨wanted_plain rfl _, fun w hSw => exec_load 30 (.tmp 22) rfl rfl (by (obtain ⟨g1, g2, g3⟩ := hSw; go_simp))⟩) (by assumption) ?_
  simp only [List.set_cons_zero, List.set_cons_succ]
  refine wpAnyF_ready (rs := [17]) (by kernel_rfl) (by simp) ?_
  refine AllReadyF.cons (o := _) rfl (fun K hK => ?_) AllReadyF.nil
  refine step_enter 24 26 #[.slice A n c, .slice Ak 33 ck] rfl rfl (by kernel_rfl) ?_
  refine HM.out.mono ?_
  rintro e w2 ⟨g, rfl, hg, hgb, hb2⟩
  have hlen : ((sha kc (hash ++ key)).take 4).length = 4 := by simp [sha_length]
  have hc2 : Cells w2 (some ⟨g, 0, none⟩) 4 (bv ((sha kc (hash ++ key)).take 4)) := ⟨by rw [bv_length, hlen], fun _ => ⟨g, 0, rfl, fun j u hu => by
    rw [Nat.zero_add, hgb.cell]
    rw [bv_get, List.getElem?_take] at hu
    split at hu
    · rw [List.getElem?_toArray, bv_get]; exact hu
    · cases hu⟩⟩
  replace s0 := cell_keep hb2 s0
  replace p0 := cell_keep hb2 p0
  replace hcd := hcd.below hb2
  have HB2 : Below w.heap.size w w2 := ⟨hb2.os, hb2.tape, hb2.output, hb2.size, hb2.block⟩
  refine ⟨_, rfl, ?_⟩
  refine hK.out _ _ (.inr (⟨s0, p0, hcd⟩)) (fun hH => ?_)
  have hHeld := hH.resolve_left (by decide)
  clear hK K hH
  try simp only [List.set_cons_zero, List.set_cons_succ]
  refine wpAnyF_ready (rs := [18]) (by kernel_rfl) (by simp) ?_
  refine AllReadyF.cons (o := _) rfl (fun K hK => ?_) AllReadyF.nil
  refine step_val 25 rfl rfl (exec_conv 30 9 (.tmp 24) rfl rfl (str_of hc2)) ?_
  refine hK.out _ _ (.inr (⟨s0, p0, hcd⟩)) (fun hH => ?_)
  have hHeld := hH.resolve_left (by decide)
  clear hK K hH
  try simp only [List.set_cons_zero, List.set_cons_succ]
  refine wpAnyF_ready (rs := [19]) (by kernel_rfl) (by simp) ?_
  refine AllReadyF.cons (o := _) rfl (fun K hK => ?_) AllReadyF.nil
  refine step_val 26 rfl rfl (exec_bin .eql 9 9 (.tmp 18) (.tmp 25) rfl rfl rfl (by kernel_rfl) (bytes_eq w2 (sig.drop 8) ((sha kc (hash ++ key)).take 4))) ?_
  refine hK.out _ _ (.inr (⟨s0, p0, hcd⟩)) (fun hH => ?_)
  have hHeld := hH.resolve_left (by decide)
  clear hK K hH
  try simp only [List.set_cons_zero, List.set_cons_succ]
  refine wpAnyF_ready (rs := [20]) (by kernel_rfl) (by simp) ?_
  refine AllReadyF.cons (o := _) rfl (fun K hK => ?_) AllReadyF.nil
  refine step_val 6 (v := .bool (sig.drop 8 == (sha kc (hash ++ key)).take 4)) (w' := w2) rfl rfl (by kernel_rfl) ?_
  refine hK.out _ _ (.inr (⟨s0, p0, hcd⟩)) (fun hH => ?_)
  have hHeld := hH.resolve_left (by decide)
  clear hK K hH
  try simp only [List.set_cons_zero, List.set_cons_succ]
  refine wpAnyF_done (by kernel_rfl) ?_ _
  have HBh := Lib.hid HB2
  clear hHeld hc2 hgb hb2 HM s0 p0 hcd HB2
  go_wp2
  go_ret
  exact ⟨rfl, HBh.out⟩
set_option maxHeartbeats 2000000 in
theorem verifySig_any (kc : Nat → Int) (w : World) (V g pk sg kb ko kx sb so sx n c : Nat) (A : Option Addr) (sub : Value) (k : Int) (hash key sig : List UInt8) (hK : KT kc w) (hV : Blk w V 269 (vfCells g pk sg kb ko kx sb so sx sub k)) (hs : Own1 w sg 287 sig) (hp : Own1 w pk 289 key) (hh : Cells w A n (bv hash)) (hsl : sig.length = 12) (hkl : key.length = 33) (hn : n ≤ 100000) :
    Calls Tryz.prog 309 #[.pointer (some ⟨V, 0, none⟩), .slice A n c] w fun e w' => e = .returned (.bool (sig.drop 8 == (sha kc (hash ++ key)).take 4)) ∧ Below w.heap.size w w' := by
  have v1 := hV.cell 1
  change _ = some (Value.pointer (some ⟨pk, 0, none⟩)) at v1
  have v2 := hV.cell 2
  change _ = some (Value.pointer (some ⟨sg, 0, none⟩)) at v2
  have HM := Lib.hid (sigVerify_any kc w.drew sg pk n c A hash key sig (show KT kc w.drew from hK) hs hp (show Cells w.drew A n _ from hh) hsl hkl hn)
  clear hK hV hs hp hh
  go_enter Tryz.func309, Tryz.ntmps309
  go_upto_region 2 with fail
  go_still_tail 9, (by kernel_rfl)
  change wpList _ _ _ _ _ w.drew
  go_wp2_with fail
  refine HM.out.mono ?_
  rintro e w2 ⟨rfl, hb2⟩
  have HB2 := Lib.hid (show Below w.heap.size w w2 from ⟨hb2.os, hb2.tape, hb2.output, hb2.size, hb2.block⟩)
  clear hb2 HM v1 v2
  go_wp2
  go_ret
  exact ⟨rfl, HB2.out⟩
end Go.Proofs.YtkgihpebghmnbaaGreatDoor

namespace Go.Proofs.YtkgihpebghmnbaaGreatDoor
open Go.RowKit Go.Proofs

set_option maxRecDepth 100000

/-- All of a transaction but its four cells, in blocks below B. -/
def TxRows (B : Nat) (w : World) (Vi Vo : Value) (t : TX) : Prop := ∃ Ai ci Ao co vi vo, Vi = .slice Ai t.ins.length ci ∧ Vo = .slice Ao t.outs.length co ∧
  Cells w Ai t.ins.length vi ∧ (∀ x y, Ai = some ⟨x, y, none⟩ → x < B) ∧ InsAt B w vi t.ins ∧ Cells w Ao t.outs.length vo ∧ (∀ x y, Ao = some ⟨x, y, none⟩ → x < B) ∧ OutsAt B w vo t.outs
theorem TxRows.below {B : Nat} {w w' : World} {Vi Vo : Value} {t : TX} (h : TxRows B w Vi Vo t) (hb : Below B w w') : TxRows B w' Vi Vo t := by
  obtain ⟨Ai, ci, Ao, co, vi, vo, e1, e2, h2, h3, h4, h5, h6, h7⟩ := h
  exact ⟨Ai, ci, Ao, co, vi, vo, e1, e2, cells_below hb h2 h3, h3, h4.below hb, cells_below hb h5 h6, h6, h7.below hb⟩
theorem InAt.lift {B B' : Nat} {w : World} {v : Value} {t : TI} (h : InAt B w v t) (hb : B ≤ B') : InAt B' w v t := by
  obtain ⟨p, o, ci, A, c, h1, h2, h3, h4, h5, h6, h7, h8, h9, h10, h11⟩ := h
  exact ⟨p, o, ci, A, c, h1, by omega, h3, h4, h5, h6, h7, h8, h9, h10, fun x y e => Nat.lt_of_lt_of_le (h11 x y e) hb⟩
theorem OutAt.lift {B B' : Nat} {w : World} {v : Value} {t : TO} (h : OutAt B w v t) (hb : B ≤ B') : OutAt B' w v t := by
  obtain ⟨p, o, A, c, h1, h2, h3, h4, h5, h6, h7, h8⟩ := h
  exact ⟨p, o, A, c, h1, by omega, h3, h4, h5, h6, h7, fun x y e => Nat.lt_of_lt_of_le (h8 x y e) hb⟩
theorem TxRows.lift {B B' : Nat} {w : World} {Vi Vo : Value} {t : TX} (h : TxRows B w Vi Vo t) (hb : B ≤ B') : TxRows B' w Vi Vo t := by
  obtain ⟨Ai, ci, Ao, co, vi, vo, e1, e2, h2, h3, h4, h5, h6, h7⟩ := h
  exact ⟨Ai, ci, Ao, co, vi, vo, e1, e2, h2, fun x y e => Nat.lt_of_lt_of_le (h3 x y e) hb, ⟨h4.1, fun i v t q1 q2 => (h4.2 i v t q1 q2).lift hb⟩, h5, fun x y e => Nat.lt_of_lt_of_le (h6 x y e) hb, ⟨h7.1, fun i v t q1 q2 => (h7.2 i v t q1 q2).lift hb⟩⟩
theorem TxRows.at {B : Nat} {w : World} {Vi Vo : Value} {t : TX} {m o : Nat} (h : TxRows B w Vi Vo t) (hm : m < B) (h4 : Tx4 w m o (.int .i32 t.ver) Vi Vo (.int .u32 t.lock)) : TxAt B w m o t := by
  obtain ⟨Ai, ci, Ao, co, vi, vo, rfl, rfl, h2, h3, h5, h6, h7, h8⟩ := h
  exact ⟨hm, Ai, ci, Ao, co, vi, vo, h4, h2, h3, h5, h6, h7, h8⟩

theorem info_vres : (Tryz.prog.info? 239).map (·.size) = some 2 := by kernel_rfl
theorem nilAhead_verify (k d : Nat) (w : World) : (nilAhead (k + 1) 230 (.pointer (some ⟨d, 0, none⟩)) "Verify").run Tryz.prog w = .ok (some false) w := by kernel_rfl

set_option maxHeartbeats 4000000 in
theorem verify_any (kc : Nat → Int) (B : Nat) (w : World) (V g pk sg kb ko kx sb so sx n c idx b : Nat) (A : Option Addr) (m0 m1 m2 m3 k : UInt8) (any : Bool) (ts : List Tok) (t : TX) (key : List UInt8) (hK : KT kc w)
    (hV : Blk w V 269 (vfCells g pk sg kb ko kx sb so sx (.slice A n c) k.toNat)) (hs : Own1 w sg 287 [48, 10, 2, 1, 1, 2, 5, 1, m0, m1, m2, m3]) (hp : Own1 w pk 289 key) (hkl : key.length = 33)
    (htx : TxAt B w g 1 t) (hB : B ≤ w.heap.size) (h5 : w.cell? ⟨g, 5, none⟩ = some (.int .i64 idx)) (hrd : Rd 0 w (.slice A n c) (code ts)) (hA : ∀ x y, A = some ⟨x, y, none⟩ → x < w.heap.size) (hsig : Rd 0 w (.slice (some ⟨sb, so, none⟩) 13 sx) (sigB m0 m1 m2 m3 k))
    (hts : ∀ t ∈ ts, TokS t) (hop : ∀ t ∈ ts, t.op ≠ 171) (hcn : ∀ t ∈ ts, Canon t) (hne : ∀ t ∈ ts, t.data ≠ sigB m0 m1 m2 m3 k) (hn0 : 0 < n) (hn : n ≤ 100000) (hix : idx < t.ins.length) (hi : t.ins.length ≤ 1000000) (ho : t.outs.length ≤ 1000000)
    (hb : bits .and .u32 k.toNat 31 = b) (hb3 : b = 1 ∨ b = 2 ∨ b = 3) (hany : bits .and .u32 k.toNat 128 = if any then 128 else 0) :
    Calls Tryz.prog 308 #[.pointer (some ⟨V, 0, none⟩)] w fun e w' =>
      e = .returned (.agg #[.bool ([m0, m1, m2, m3] == (sha kc (sigHash kc (code ts) k.toNat b any idx t ++ key)).take 4), .bool false]) ∧ Below w.heap.size w w' := by
  have hr1 := Blk.new w 239 #[.bool false, .bool false]
  have hb1 : Below w.heap.size w (w.alloc (.cells #[.bool false, .bool false] 239)) := (Below.refl _ _).alloc (Nat.le_refl _) _
  have a1 := hV.below hb1 hV.lt
  have a2 := hs.below hb1
  have a3 := hp.below hb1
  have a4 := htx.below (hb1.mono hB)
  have a5 := cell_keep hb1 h5
  have a6 := hrd.below hb1
  have a7 := hsig.below hb1
  have a8 := hK.below hb1
  have hs1 : w.heap.size < (w.alloc (.cells #[.bool false, .bool false] 239)).heap.size := by simp
  have HTS := Lib.hid hts
  have HOP := Lib.hid hop
  have HCN := Lib.hid hcn
  have HNE := Lib.hid hne
  have HA := Lib.hid hA
  have HBB := Lib.hid hb
  have HANY := Lib.hid hany
  clear hV hs hp htx h5 hrd hsig hK hts hop hcn hne hA hb hany
  have HV := Lib.hid a1
  have HS := Lib.hid a2
  have HP := Lib.hid a3
  have HTX := Lib.hid a4
  have H5 := Lib.hid a5
  have HR := Lib.hid a6
  have HSG := Lib.hid a7
  have HK := Lib.hid a8
  have HR1 := Lib.hid hr1
  have HB1 := Lib.hid hb1
  clear a1 a2 a3 a4 a5 a6 a7 a8 hr1 hb1
  go_enter Tryz.func308, Tryz.ntmps308
  go_upto_region 1 with fail
  generalize hqq : w.heap.size = q0 at *
  generalize w.alloc (.cells #[.bool false, .bool false] 239) = w1 at *
  have HVc : Blk w1.drew V _ _ := HV.out
  refine wp_region_f_drew (S := (fun w' => Blk w' V 269 (vfCells g pk sg kb ko kx sb so sx (.slice A n c) k.toNat))) (F := []) (by kernel_rfl) (HVc) (fun hHeld => ?_)
  refine f_take 0 7 (.pointer (some ⟨V, 0, none⟩)) rfl rfl (by kernel_rfl) (by kernel_rfl) (by kernel_rfl) (by kernel_rfl) (fun _ _ _ h => h) (Or.inl ⟨wanted_plain rfl _, fun w hSw => by kernel_rfl⟩) (by assumption) ?_
  simp only [List.set_cons_zero, List.set_cons_succ]
  refine f_take 1 8 (.pointer (some ⟨V, 0, none⟩)) rfl rfl (by kernel_rfl) (by kernel_rfl) (by kernel_rfl) (by kernel_rfl) (fun _ _ _ h => h) (Or.inl ⟨wanted_plain rfl _, fun w hSw => by kernel_rfl⟩) (by assumption) ?_
  simp only [List.set_cons_zero, List.set_cons_succ]
  refine f_take 2 9 (.pointer (some ⟨V, 6, none⟩)) rfl rfl (by kernel_rfl) (by kernel_rfl) (by kernel_rfl) (by kernel_rfl) (fun _ _ _ h => h) (Or.inl ⟨wanted_plain rfl _, fun w hSw => by kernel_rfl⟩) (by assumption) ?_
  simp only [List.set_cons_zero, List.set_cons_succ]
  refine f_take 3 10 (.slice A n c) rfl rfl (by kernel_rfl) (by kernel_rfl) (by kernel_rfl) (by kernel_rfl) (fun _ _ _ h => h) (Or.inl ⟨wanted_plain rfl _, fun w hSw => exec_load 30 (.tmp 9) rfl rfl (by (have q := hSw.cell 6; change _ = some (Value.slice A n c) at q; go_simp))⟩) (by assumption) ?_
  simp only [List.set_cons_zero, List.set_cons_succ]
  refine f_take 4 11 (.pointer (some ⟨V, 0, none⟩)) rfl rfl (by kernel_rfl) (by kernel_rfl) (by kernel_rfl) (by kernel_rfl) (fun _ _ _ h => h) (Or.inl ⟨wanted_plain rfl _, fun w hSw => by kernel_rfl⟩) (by assumption) ?_
  simp only [List.set_cons_zero, List.set_cons_succ]
  refine f_take 5 12 (.pointer (some ⟨V, 0, none⟩)) rfl rfl (by kernel_rfl) (by kernel_rfl) (by kernel_rfl) (by kernel_rfl) (fun _ _ _ h => h) (Or.inl ⟨wanted_plain rfl _, fun w hSw => by kernel_rfl⟩) (by assumption) ?_
  simp only [List.set_cons_zero, List.set_cons_succ]
  refine f_take 6 13 (.pointer (some ⟨V, 3, none⟩)) rfl rfl (by kernel_rfl) (by kernel_rfl) (by kernel_rfl) (by kernel_rfl) (fun _ _ _ h => h) (Or.inl ⟨wanted_plain rfl _, fun w hSw => by kernel_rfl⟩) (by assumption) ?_
  simp only [List.set_cons_zero, List.set_cons_succ]
  refine f_take 7 14 (.slice (some ⟨sb, so, none⟩) 13 sx) rfl rfl (by kernel_rfl) (by kernel_rfl) (by kernel_rfl) (by kernel_rfl) (fun _ _ _ h => h) (Or.inl ⟨wanted_plain rfl _, fun w hSw => exec_load 30 (.tmp 13) rfl rfl (by (have q := hSw.cell 3; change _ = some (Value.slice (some ⟨sb, so, none⟩) 13 sx) at q; go_simp))⟩) (by assumption) ?_
  simp only [List.set_cons_zero, List.set_cons_succ]
  refine wpAnyF_ready (rs := [8]) (by kernel_rfl) (by simp) ?_
  refine AllReadyF.cons (o := _) rfl (fun K hK => ?_) AllReadyF.nil
  refine step_enter 15 215 #[.slice A n c, .slice (some ⟨sb, so, none⟩) 13 sx] rfl rfl (by kernel_rfl) ?_
  refine (removeData_any w1.drew n c 13 sx A (some ⟨sb, so, none⟩) ts (sigB m0 m1 m2 m3 k) (show Rd 0 w1.drew _ _ from HR.out) HTS.out HCN.out HNE.out (show Rd 0 w1.drew _ _ from HSG.out) hn0 hn (by omega)).mono ?_
  rintro e w2 ⟨rfl, hb2⟩
  replace HVc := HVc.below hb2 HVc.lt
  have hb2' : Below w1.heap.size w1 w2 := ⟨hb2.os, hb2.tape, hb2.output, hb2.size, hb2.block⟩
  refine ⟨_, rfl, ?_⟩
  refine hK.out _ _ (.inr (HVc)) (fun hH => ?_)
  have hHeld := hH.resolve_left (by decide)
  clear hK K hH
  try simp only [List.set_cons_zero, List.set_cons_succ]
  refine f_take 9 6 (.tuple #[.slice A n c, .bool false]) rfl rfl (by kernel_rfl) (by kernel_rfl) (by kernel_rfl) (by kernel_rfl) (fun _ _ _ h => h) (Or.inl ⟨wanted_plain rfl _, fun w hSw => by kernel_rfl⟩) (by assumption) ?_
  simp only [List.set_cons_zero, List.set_cons_succ]
  refine f_take 10 16 (.slice A n c) rfl rfl (by kernel_rfl) (by kernel_rfl) (by kernel_rfl) (by kernel_rfl) (fun _ _ _ h => h) (Or.inl ⟨wanted_plain rfl _, fun w hSw => by kernel_rfl⟩) (by assumption) ?_
  simp only [List.set_cons_zero, List.set_cons_succ]
  refine f_take 11 17 (.bool false) rfl rfl (by kernel_rfl) (by kernel_rfl) (by kernel_rfl) (by kernel_rfl) (fun _ _ _ h => h) (Or.inl ⟨wanted_plain rfl _, fun w hSw => by kernel_rfl⟩) (by assumption) ?_
  simp only [List.set_cons_zero, List.set_cons_succ]
  refine f_take 12 3 (.slice A n c) rfl rfl (by kernel_rfl) (by kernel_rfl) (by kernel_rfl) (by kernel_rfl) (fun _ _ _ h => h) (Or.inl ⟨wanted_plain rfl _, fun w hSw => by kernel_rfl⟩) (by assumption) ?_
  simp only [List.set_cons_zero, List.set_cons_succ]
  refine f_take 13 4 (.bool false) rfl rfl (by kernel_rfl) (by kernel_rfl) (by kernel_rfl) (by kernel_rfl) (fun _ _ _ h => h) (Or.inl ⟨wanted_plain rfl _, fun w hSw => by kernel_rfl⟩) (by assumption) ?_
  simp only [List.set_cons_zero, List.set_cons_succ]
  refine wpAnyF_done (by kernel_rfl) ?_ _
  have v7 := HVc.cell 7
  change _ = some (Value.int .u32 k.toNat) at v7
  have v0 := HVc.cell 0
  change _ = some (Value.pointer (some ⟨g, 0, none⟩)) at v0
  have g5 := cell_keep hb2' H5.out
  have hgl : g < w2.heap.size := World.block_lt_of_cell? w2 _ g5
  have HSC := Lib.hid (sig_any kc B w2.drew g 1 n c idx A ts t k.toNat b any (HK.out.below hb2'.drew) (HTX.out.below (hb2'.drew.mono (by omega))) (show B ≤ w2.heap.size by have := hb2'.size; omega) (HR.out.below hb2'.drew) (fun x y e => by have h1 := HA.out x y e; have h2 := hb2'.size; show x < w2.heap.size; omega) HTS.out HOP.out hn0 hn hix hi ho HBB.out hb3 HANY.out)
  have HV2 := Lib.hid HVc
  have HS2 := Lib.hid (HS.out.below hb2')
  have HP2 := Lib.hid (HP.out.below hb2')
  have HK2 := Lib.hid (HK.out.below hb2')
  have HR2 := Lib.hid (HR1.out.below hb2' HR1.out.lt)
  have HB2 := Lib.hid (HB1.out.trans (hb2'.mono (Nat.le_of_lt hs1)))
  have hsz2 := hb2'.size
  clear hHeld HVc hb2 hb2' HV HS HP HK HTX H5 HR HSG HR1 HB1 HTS HOP HCN HNE HA
  go_upto_region 2 with fail
  go_still_tail 18, (by kernel_rfl)
  change wpList _ _ _ _ _ w2.drew
  go_wp2_with fail
  refine HSC.out.mono ?_
  rintro e w3 ⟨hg, rfl, hgw, hgb, hb3'⟩
  have hb3w : Below w2.heap.size w2 w3 := ⟨hb3'.os, hb3'.tape, hb3'.output, hb3'.size, hb3'.block⟩
  have hl32 : (sigHash kc (code ts) k.toNat b any idx t).length = 32 := sigHash_length _ _ _ _ _ _ _
  have HVS := Lib.hid (verifySig_any kc w3 V g pk sg kb ko kx sb so sx 32 32 (some ⟨hg, 0, none⟩) (.slice A n c) k.toNat _ key _ (HK2.out.below hb3w) (HV2.out.below hb3w HV2.out.lt) (HS2.out.below hb3w) (HP2.out.below hb3w) (Cells.of_blk hgb (by rw [bv_length, hl32])) rfl hkl (by omega))
  have HR3 := Lib.hid (HR2.out.below hb3w HR2.out.lt)
  have HB3 := Lib.hid (HB2.out.trans (hb3w.mono (by omega)))
  have hsz3 := hb3w.size
  clear hb3' hb3w hgb hgw HSC v7 v0 g5 HV2 HS2 HP2 HK2 HR2 HB2
  go_wp2_with fail
  refine HVS.out.mono ?_
  rintro e w4 ⟨rfl, hb4⟩
  have hok : (List.drop 8 [48, 10, 2, 1, 1, 2, 5, 1, m0, m1, m2, m3] == List.take 4 (sha kc (sigHash kc (code ts) k.toNat b any idx t ++ key))) = ([m0, m1, m2, m3] == List.take 4 (sha kc (sigHash kc (code ts) k.toNat b any idx t ++ key))) := rfl
  rw [hok]
  clear hok
  generalize hoke : ([m0, m1, m2, m3] == List.take 4 (sha kc (sigHash kc (code ts) k.toNat b any idx t ++ key))) = ok at *
  have r4 := HR3.out.below hb4 HR3.out.lt
  have HB4 := Lib.hid (HB3.out.trans (hb4.mono (by omega)))
  have hst := storeAt_row (P := Tryz.prog) w4 q0 239 239 _ #[.bool ok, .bool false] r4 info_vres rfl (by kernel_rfl)
  have r5 := Blk.setRow r4 #[.bool ok, .bool false]
  have hlv := run_loadVar_row (P := Tryz.prog) (w4.setRow q0 #[.bool ok, .bool false]) q0 239 239 #[.bool ok, .bool false] (0, 0) _ r5 Tryz.underlying239 rfl info_vres
  have HB5 := Lib.hid (Below.fm HB4.out (cFm_setRow (g := q0) (Fm.refl _ _) #[.bool ok, .bool false]) (by rw [← hqq]; exact HB4.out.size) (fun j hj (hm : j = q0) => by omega))
  clear r4 r5 hb4 HB3 HB4 HVS HR3
  go_wp2_with (refine wpList_skip rfl rfl (exec_store 239 (.tmp 2) (.tmp 41) rfl rfl rfl hst) ?_; refine Stop.mk ?_)
  refine Stop.go ?_
  go_wp2
  refine bodyPost_ret (v := .agg #[.bool ok, .bool false]) ?_ rfl ?_
  · exact results_cell rfl _ _ _ q0 _ rfl hlv
  · exact ⟨by rw [hoke], by rw [hqq]; exact HB5.out⟩
end Go.Proofs.YtkgihpebghmnbaaGreatDoor
