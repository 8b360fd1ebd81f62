/- A transaction of the text, built of any one as plain data: the walk. (Printed by gen_txf2.py.) -/
import Derived.Test.YtkgihpebghmnbaaGreatDoorG25
import Derived.Test.YtkgihpebghmnbaaGreatDoorShr
namespace Go.Proofs.YtkgihpebghmnbaaGreatDoor
open Go.RowKit Go.Proofs

set_option maxRecDepth 100000

theorem info_iin : (Tryz.prog.info? 43).map (·.size) = some 36 := by kernel_rfl
theorem rng33 {w : World} {g : Nat} {t : TypeId} {x0 x1 x2 x3 x4 x5 x6 x7 x8 x9 x10 x11 x12 x13 x14 x15 x16 x17 x18 x19 x20 x21 x22 x23 x24 x25 x26 x27 x28 x29 x30 x31 a b c d : Value} (h : Blk w g t #[x0, x1, x2, x3, x4, x5, x6, x7, x8, x9, x10, x11, x12, x13, x14, x15, x16, x17, x18, x19, x20, x21, x22, x23, x24, x25, x26, x27, x28, x29, x30, x31, a, b, c, d]) : w.rangeAt g 0 [x0, x1, x2, x3, x4, x5, x6, x7, x8, x9, x10, x11, x12, x13, x14, x15, x16, x17, x18, x19, x20, x21, x22, x23, x24, x25, x26, x27, x28, x29, x30, x31, a] := fun j v hv => by
  rw [Nat.zero_add, h.cell j]
  have hj : j < 33 := (List.getElem?_eq_some_iff.1 hv).1
  have e : (#[x0, x1, x2, x3, x4, x5, x6, x7, x8, x9, x10, x11, x12, x13, x14, x15, x16, x17, x18, x19, x20, x21, x22, x23, x24, x25, x26, x27, x28, x29, x30, x31, a, b, c, d] : Array Value) = ([x0, x1, x2, x3, x4, x5, x6, x7, x8, x9, x10, x11, x12, x13, x14, x15, x16, x17, x18, x19, x20, x21, x22, x23, x24, x25, x26, x27, x28, x29, x30, x31, a] ++ [b, c, d]).toArray := rfl
  rw [e, List.getElem?_toArray, List.getElem?_append_left hj]
  exact hv
theorem und_iop : Tryz.prog.underlying 40 = some (.struct (match Tryz.prog.underlying 40 with | some (.struct fs) => fs | _ => #[])) := by kernel_rfl
theorem info_iop : (Tryz.prog.info? 40).map (·.size) = some 33 := by kernel_rfl

theorem idx_out (w : World) (b o j no co : Nat) (h : j < no) : (Instr.indexAt 24 (.slice (some ⟨b, o, none⟩) no co) (.int .i64 j)).run Tryz.prog w = .ok (.pointer (some ⟨b, o + j * 2, none⟩)) w := by
  have h1 : (j : Int) < (no : Int) := by omega
  have h2 : (0 : Int) ≤ (j : Int) := by omega
  go_simp
theorem exec_iaddr {P : Program} {ρ : Operand → Value} {o : Oper} {w : World} (ty : TypeId) (x y : Operand) {a b v : Value} (ho : o.op = .indexAddr ty x y) (hx : ρ x = a) (hy : ρ y = b) (hr : (Instr.indexAt ty a b).run P w = .ok v w) : (execOp ρ o).run P w = .ok (.value v) w := by
  unfold execOp
  simp only [ho, hx, hy, Sem.run_bind, Sem.run_pure, Result.andThen_ok, hr]
theorem rows_ne {w : World} {b1 b2 n1 n2 : Nat} {e1 e2 : TypeId} {v1 v2 : Value} {x1 x2 : List Value} (h1 : w.ownsRow b1 e1 1 v1 n1 x1) (h2 : w.ownsRow b2 e2 1 v2 n2 x2) (hne : e1 ≠ e2) (k : Nat) (k1 : v1.ownBlock = some k) (k2 : v2.ownBlock = some k) : False := by
  rcases h1.2 with ⟨rfl, _⟩ | ⟨g, cap, cur, rfl, _, hg, _⟩
  · simp [Value.ownBlock] at k1
  · rcases h2.2 with ⟨rfl, _⟩ | ⟨g', cap', cur', rfl, _, hg', _⟩
    · simp [Value.ownBlock] at k2
    · have e1 : g = k := by simpa [Value.ownBlock] using k1
      have e2 : g' = k := by simpa [Value.ownBlock] using k2
      subst e1; subst e2
      rw [hg] at hg'
      injection hg' with hg'
      injection hg' with _ e
      exact hne e

/-- The inputs of the transaction at block m, each with its script's own row. -/
def TxSig (w : World) (m : Nat) (t : TX) : Prop := ∃ A c vs, w.cell? ⟨m, 1, none⟩ = some (.slice A t.ins.length c) ∧ Cells w A t.ins.length vs ∧ InsX w vs t.ins
theorem TxSig.below {w w' : World} {m : Nat} {t : TX} (h : TxSig w m t) (hb : Below w.heap.size w w') : TxSig w' m t := by
  obtain ⟨A, c, vs, h1, h2, h3⟩ := h
  exact ⟨A, c, vs, cell_keep hb h1, h2.below hb, h3.fm (M := fun _ => False) (Fm.of_below hb) (fun k _ h => h.elim)⟩

set_option maxHeartbeats 8000000 in
theorem txFrom_any (B : Nat) (w : World) (Ai Ao : Option Addr) (ci co : Nat) (p : PT) (hs : SrcTx B w Ai Ao p) (hsm : p.Small) :
    Calls Tryz.prog 19 #[.agg #[.int .i32 p.ver, .slice Ai p.ins.length ci, .slice Ao p.outs.length co, .int .u32 p.lock]] w fun e w' =>
      ∃ m, e = .returned (.pointer (some ⟨m, 0, none⟩)) ∧ w.heap.size ≤ m ∧ TxAt w'.heap.size w' m 0 p.tx ∧ Below w.heap.size w w' ∧ TxSig w' m p.tx := by
  have hni0 := hsm.ni
  have hno0 := hsm.no
  have HSI := Lib.hid hsm.ins
  have HSO := Lib.hid hsm.outs
  have HI := Lib.hid hs.ins
  have HO := Lib.hid hs.outs
  clear hs hsm
  generalize hni : p.ins.length = ni at *
  generalize hno : p.outs.length = no at *
  go_enter Tryz.func19, Tryz.ntmps19
  go_wp2_with fail
  have hT := (Blk.new w 27 #[.int .i32 p.ver, .slice Ai ni ci, .slice Ao no co, .int .u32 p.lock]).alloc (.cells #[.int .i32 p.ver, .slice none 0 0, .slice none 0 0, .int .u32 p.lock] 79)
  have hM := Blk.new (w.alloc (.cells #[.int .i32 p.ver, .slice Ai ni ci, .slice Ao no co, .int .u32 p.lock] 27)) 79 #[.int .i32 p.ver, .slice none 0 0, .slice none 0 0, .int .u32 p.lock]
  have hB2 : Below w.heap.size w ((w.alloc (.cells #[.int .i32 p.ver, .slice Ai ni ci, .slice Ao no co, .int .u32 p.lock] 27)).alloc (.cells #[.int .i32 p.ver, .slice none 0 0, .slice none 0 0, .int .u32 p.lock] 79)) := ((Below.refl _ _).alloc (Nat.le_refl _) _).alloc (by simp) _
  rw [size_alloc1] at hM
  have hmw : w.heap.size ≤ w.heap.size + 1 := by omega
  generalize hme : w.heap.size + 1 = m at *
  generalize hTT : w.heap.size = T at hT ⊢
  have hTw : w.heap.size ≤ T := Nat.le_of_eq hTT
  generalize (w.alloc (.cells #[.int .i32 p.ver, .slice Ai ni ci, .slice Ao no co, .int .u32 p.lock] 27)).alloc (.cells #[.int .i32 p.ver, .slice none 0 0, .slice none 0 0, .int .u32 p.lock] 79) = W2 at *
  have HT2 := Lib.hid hT
  have HM2 := Lib.hid hM
  have HB2 := Lib.hid hB2
  have hne0 : T ≠ m := by omega
  clear hT hM hB2
  go_loopg [4] (ni + 1) (fun k s4 wx => ∃ i A c vs, k = ni - i + 1 ∧ i ≤ ni ∧ s4 = .int .i64 i ∧ Blk wx m 79 #[.int .i32 p.ver, .slice A i c, .slice none 0 0, .int .u32 p.lock] ∧
    wx.ownsRow w.heap.size 80 1 (.slice A i c) i vs ∧ InsX wx vs ((p.ins.take i).map PI.ti) ∧ Below w.heap.size w wx ∧ Blk wx T 27 #[.int .i32 p.ver, .slice Ai ni ci, .slice Ao no co, .int .u32 p.lock])
  case atStart => exact ⟨0, none, 0, [], rfl, Nat.zero_le _, rfl, HM2.out, ⟨rfl, .inl ⟨rfl, rfl⟩⟩, ⟨rfl, fun i v t h _ => by simp at h⟩, HB2.out, HT2.out⟩
  case round =>
    obtain ⟨i, A, c, vs, hk, hin, rfl, hMx, hown, hix, hbx, hTx⟩ := hrel
    have t1 := hTx.cell 1
    change _ = some (Value.slice Ai ni ci) at t1
    by_cases h0 : i = ni
    · subst h0
      have hd : decide ((i : Int) < i) = false := by simp
      rw [List.take_of_length_le (by omega)] at hix
      have HMx := Lib.hid hMx
      have HOx := Lib.hid hown
      have HIx := Lib.hid hix
      have HBx := Lib.hid hbx
      have HTx := Lib.hid hTx
      have HKk := Lib.hid hk
      clear hMx hown hix hbx hTx hk HT2 HM2 HB2
      go_wp2_with fail
      go_loopg [6] (no + 1) (fun k s6 wx => ∃ j A2 c2 vs2, k = no - j + 1 ∧ j ≤ no ∧ s6 = .int .i64 j ∧ Blk wx m 79 #[.int .i32 p.ver, .slice A i c, .slice A2 j c2, .int .u32 p.lock] ∧
        wx.ownsRow w.heap.size 80 1 (.slice A i c) i vs ∧ InsX wx vs (p.ins.map PI.ti) ∧ wx.ownsRow w.heap.size 88 1 (.slice A2 j c2) j vs2 ∧ OutsX wx vs2 (p.outs.take j) ∧ Below w.heap.size w wx ∧ Blk wx T 27 #[.int .i32 p.ver, .slice Ai i ci, .slice Ao no co, .int .u32 p.lock])
      case atStart => exact ⟨0, none, 0, [], rfl, Nat.zero_le _, rfl, HMx.out, HOx.out, HIx.out, ⟨rfl, .inl ⟨rfl, rfl⟩⟩, ⟨rfl, fun i v t h _ => by simp at h⟩, HBx.out, HTx.out⟩
      case round =>
        clear HMx HOx HIx HBx HTx
        obtain ⟨j, A2, c2, vs2, hk, hjn, rfl, hMx, hown, hix, hown2, hox, hbx, hTx⟩ := hrel
        have t2 := hTx.cell 2
        change _ = some (Value.slice Ao no co) at t2
        by_cases h0 : j = no
        · subst h0
          have hd : decide ((j : Int) < j) = false := by simp
          rw [List.take_of_length_le (by omega)] at hox
          have htx : TxAt wr.heap.size wr m 0 p.tx := by
            have e1 : p.tx.ins.length = i := by simp [PT.tx, hni]
            have e2 : p.tx.outs.length = j := hno
            refine ⟨hMx.lt, A, c, A2, c2, vs, vs2, by rw [e1, e2]; exact Tx4.of hMx, by rw [e1]; exact Cells.of_own hown, own_at hown, ⟨hix.1, fun a v t q1 q2 => (hix.2 a v t q1 q2).at⟩, by rw [e2]; exact Cells.of_own hown2, own_at hown2, ⟨hox.1, fun a v t q1 q2 => (hox.2 a v t q1 q2).at⟩⟩
          have hsig : TxSig wr m p.tx := by
            have e1 : p.tx.ins.length = i := by simp [PT.tx, hni]
            exact ⟨A, c, vs, by rw [e1]; exact hMx.cell 1, by rw [e1]; exact Cells.of_own hown, hix⟩
          have HX := Lib.hid htx
          have HSX := Lib.hid hsig
          have HBx := Lib.hid hbx
          clear hsig htx hMx hown hix hown2 hox hbx hTx
          go_wp2
          go_ret
          exact ⟨m, rfl, by omega, HX.out, HBx.out, HSX.out⟩
        · have h1 : (j : Int) < (no : Int) := by omega
          have h2 : (0 : Int) ≤ (j : Int) := by omega
          obtain ⟨b, o, rfl, hsrc⟩ := HO.out (by omega)
          obtain ⟨pj, hpj⟩ : ∃ v, p.outs[j]? = some v := ⟨p.outs[j]'(by omega), List.getElem?_eq_getElem _⟩
          obtain ⟨As, cs, hc0, hc1, hrd⟩ := (hsrc j pj hpj).below hbx
          have hl1 := HSO.out pj (List.mem_of_getElem? hpj)
          have HKk2 := Lib.hid hk
          have HPJ := Lib.hid hpj
          have HQ : Hid (Blk wr m 79 _ ∧ wr.ownsRow w.heap.size 80 1 (.slice A i c) i vs ∧ InsX wr vs (p.ins.map PI.ti) ∧ wr.ownsRow w.heap.size 88 1 (.slice A2 j c2) j vs2 ∧ OutsX wr vs2 (p.outs.take j) ∧ Below w.heap.size w wr ∧ Blk wr T 27 _ ∧ wr.cell? ⟨b, o + j * 2, none⟩ = some (.int .i64 pj.val) ∧ wr.cell? ⟨b, o + j * 2 + 1, none⟩ = some (.slice As pj.scr.length cs) ∧ Rd B wr (.slice As pj.scr.length cs) pj.scr) := ⟨hMx, hown, hix, hown2, hox, hbx, hTx, hc0, hc1, hrd⟩
          clear hMx hown hix hown2 hox hbx hTx hk hpj hsrc hc0 hc1 hrd
          go_upto_region 10 with fail
          clear t2
          obtain ⟨a1, a2, a3, a4, a5, a6, a7, HC0', HC1', HRD'⟩ := HQ.out
          have HMx : Blk wr.drew m _ _ := a1
          have HOx : wr.drew.ownsRow w.heap.size 80 1 (.slice A i c) i vs := a2
          have HIx : InsX wr.drew vs (p.ins.map PI.ti) := a3.fm (M := fun _ => False) ((Fm.refl _ _).drew) (fun k _ h => h.elim)
          have HO2 : wr.drew.ownsRow w.heap.size 88 1 (.slice A2 j c2) j vs2 := a4
          have HOX : OutsX wr.drew vs2 (p.outs.take j) := a5.fm (M := fun _ => False) ((Fm.refl _ _).drew) (fun k _ h => h.elim)
          have HBx : Below w.heap.size w wr.drew := a6.drew
          have HTx : Blk wr.drew T _ _ := a7
          have HC0 : wr.drew.cell? ⟨b, o + j * 2, none⟩ = some (.int .i64 pj.val) := HC0'
          have HC1 : wr.drew.cell? ⟨b, o + j * 2 + 1, none⟩ = some (.slice As pj.scr.length cs) := HC1'
          have HRD : Rd B wr.drew (.slice As pj.scr.length cs) pj.scr := HRD'
          have hbw : b < w.heap.size := by
            obtain ⟨b0, o0, e0, hq⟩ := HO.out (by omega)
            injection e0 with e0; injection e0 with e1 e2
            subst e1; subst e2
            obtain ⟨_, _, q0, _, _⟩ := hq j pj HPJ.out
            exact World.block_lt_of_cell? w _ q0
          clear a1 a2 a3 a4 a5 a6 a7 HC0' HC1' HRD' HQ
          obtain ⟨ip, hip, hp0, hp1, hp2⟩ := info_parts info_pout
          refine wp_region_f_drew (S := (fun w' => w'.cell? ⟨m, 2, none⟩ = some (.slice A2 j c2) ∧ w'.cell? ⟨T, 2, none⟩ = some (.slice (some ⟨b, o, none⟩) no co) ∧ w'.cell? ⟨b, o + j * 2, none⟩ = some (.int .i64 pj.val) ∧ w'.cell? ⟨b, o + j * 2 + 1, none⟩ = some (.slice As pj.scr.length cs))) (F := [24]) (by kernel_rfl) (⟨HMx.cell 2, HTx.cell 2, HC0, HC1⟩) (fun hHeld => ?_)
          refine f_take 0 54 (.pointer (some ⟨m, 0, none⟩)) rfl rfl (by kernel_rfl) (by kernel_rfl) (by kernel_rfl) (by kernel_rfl) (fun _ _ _ h => h) (Or.inl ⟨wanted_plain rfl _, fun w hSw => by kernel_rfl⟩) (by assumption) ?_
          simp only [List.set_cons_zero, List.set_cons_succ]
          refine f_take 1 55 (.pointer (some ⟨m, 0, none⟩)) rfl rfl (by kernel_rfl) (by kernel_rfl) (by kernel_rfl) (by kernel_rfl) (fun _ _ _ h => h) (Or.inl ⟨wanted_plain rfl _, fun w hSw => by kernel_rfl⟩) (by assumption) ?_
          simp only [List.set_cons_zero, List.set_cons_succ]
          refine f_take 2 56 (.pointer (some ⟨m, 0, none⟩)) rfl rfl (by kernel_rfl) (by kernel_rfl) (by kernel_rfl) (by kernel_rfl) (fun _ _ _ h => h) (Or.inl ⟨wanted_plain rfl _, fun w hSw => by kernel_rfl⟩) (by assumption) ?_
          simp only [List.set_cons_zero, List.set_cons_succ]
          refine f_take 3 57 (.pointer (some ⟨m, 2, none⟩)) rfl rfl (by kernel_rfl) (by kernel_rfl) (by kernel_rfl) (by kernel_rfl) (fun _ _ _ h => h) (Or.inl ⟨wanted_plain rfl _, fun w hSw => by kernel_rfl⟩) (by assumption) ?_
          simp only [List.set_cons_zero, List.set_cons_succ]
          refine f_take 4 58 (.slice A2 j c2) rfl rfl (by kernel_rfl) (by kernel_rfl) (by kernel_rfl) (by kernel_rfl) (fun _ _ _ h => h) (Or.inl ⟨wanted_plain rfl _, fun w hSw => exec_load 77 (.tmp 57) rfl rfl (by (obtain ⟨g1, g2, g3, g4⟩ := hSw; go_simp))⟩) (by assumption) ?_
          simp only [List.set_cons_zero, List.set_cons_succ]
          refine f_take 5 59 (.pointer (some ⟨T, 2, none⟩)) rfl rfl (by kernel_rfl) (by kernel_rfl) (by kernel_rfl) (by kernel_rfl) (fun _ _ _ h => h) (Or.inl ⟨wanted_plain rfl _, fun w hSw => by kernel_rfl⟩) (by assumption) ?_
          simp only [List.set_cons_zero, List.set_cons_succ]
          refine f_take 6 60 (.slice (some ⟨b, o, none⟩) no co) rfl rfl (by kernel_rfl) (by kernel_rfl) (by kernel_rfl) (by kernel_rfl) (fun _ _ _ h => h) (Or.inl ⟨wanted_plain rfl _, fun w hSw => exec_load 24 (.tmp 59) rfl rfl (by (obtain ⟨g1, g2, g3, g4⟩ := hSw; go_simp))⟩) (by assumption) ?_
          simp only [List.set_cons_zero, List.set_cons_succ]
          refine f_take 7 61 (.int .i64 j) rfl rfl (by kernel_rfl) (by kernel_rfl) (by kernel_rfl) (by kernel_rfl) (fun _ _ _ h => h) (Or.inl ⟨wanted_plain rfl _, fun w hSw => by kernel_rfl⟩) (by assumption) ?_
          simp only [List.set_cons_zero, List.set_cons_succ]
          refine f_take 8 62 (.pointer (some ⟨b, o + j * 2, none⟩)) rfl rfl (by kernel_rfl) (by kernel_rfl) (by kernel_rfl) (by kernel_rfl) (fun _ _ _ h => h) (Or.inl ⟨wanted_plain rfl _, fun w hSw => by (have hx1 : (j : Int) < (no : Int) := h1; have hx2 : (0 : Int) ≤ (j : Int) := h2; exact exec_iaddr 24 (.tmp 60) (.tmp 61) rfl rfl rfl (idx_out w b o j no co (by omega)))⟩) (by assumption) ?_
          simp only [List.set_cons_zero, List.set_cons_succ]
          refine f_take 9 63 (.pointer (some ⟨b, o + j * 2, none⟩)) rfl rfl (by kernel_rfl) (by kernel_rfl) (by kernel_rfl) (by kernel_rfl) (fun _ _ _ h => h) (Or.inl ⟨wanted_plain rfl _, fun w hSw => by kernel_rfl⟩) (by assumption) ?_
          simp only [List.set_cons_zero, List.set_cons_succ]
          refine f_take 10 64 (.int .i64 pj.val) rfl rfl (by kernel_rfl) (by kernel_rfl) (by kernel_rfl) (by kernel_rfl) (fun _ _ _ h => h) (Or.inl ⟨wanted_plain rfl _, fun w hSw => exec_load 2 (.tmp 63) rfl rfl (by (obtain ⟨g1, g2, g3, g4⟩ := hSw; go_simp))⟩) (by assumption) ?_
          simp only [List.set_cons_zero, List.set_cons_succ]
          refine f_take 11 65 (.pointer (some ⟨T, 2, none⟩)) rfl rfl (by kernel_rfl) (by kernel_rfl) (by kernel_rfl) (by kernel_rfl) (fun _ _ _ h => h) (Or.inl ⟨wanted_plain rfl _, fun w hSw => by kernel_rfl⟩) (by assumption) ?_
          simp only [List.set_cons_zero, List.set_cons_succ]
          refine f_take 12 66 (.slice (some ⟨b, o, none⟩) no co) rfl rfl (by kernel_rfl) (by kernel_rfl) (by kernel_rfl) (by kernel_rfl) (fun _ _ _ h => h) (Or.inl ⟨wanted_plain rfl _, fun w hSw => exec_load 24 (.tmp 65) rfl rfl (by (obtain ⟨g1, g2, g3, g4⟩ := hSw; go_simp))⟩) (by assumption) ?_
          simp only [List.set_cons_zero, List.set_cons_succ]
          refine f_take 13 67 (.int .i64 j) rfl rfl (by kernel_rfl) (by kernel_rfl) (by kernel_rfl) (by kernel_rfl) (fun _ _ _ h => h) (Or.inl ⟨wanted_plain rfl _, fun w hSw => by kernel_rfl⟩) (by assumption) ?_
          simp only [List.set_cons_zero, List.set_cons_succ]
          refine f_take 14 68 (.pointer (some ⟨b, o + j * 2, none⟩)) rfl rfl (by kernel_rfl) (by kernel_rfl) (by kernel_rfl) (by kernel_rfl) (fun _ _ _ h => h) (Or.inl ⟨wanted_plain rfl _, fun w hSw => by (have hx1 : (j : Int) < (no : Int) := h1; have hx2 : (0 : Int) ≤ (j : Int) := h2; exact exec_iaddr 24 (.tmp 66) (.tmp 67) rfl rfl rfl (idx_out w b o j no co (by omega)))⟩) (by assumption) ?_
          simp only [List.set_cons_zero, List.set_cons_succ]
          refine f_take 15 69 (.pointer (some ⟨b, o + j * 2 + 1, none⟩)) rfl rfl (by kernel_rfl) (by kernel_rfl) (by kernel_rfl) (by kernel_rfl) (fun _ _ _ h => h) (Or.inl ⟨wanted_plain rfl _, fun w hSw => by kernel_rfl⟩) (by assumption) ?_
          simp only [List.set_cons_zero, List.set_cons_succ]
          refine f_take 16 70 (.slice As pj.scr.length cs) rfl rfl (by kernel_rfl) (by kernel_rfl) (by kernel_rfl) (by kernel_rfl) (fun _ _ _ h => h) (Or.inl ⟨wanted_plain rfl _, fun w hSw => exec_load 30 (.tmp 69) rfl rfl (by (obtain ⟨g1, g2, g3, g4⟩ := hSw; go_simp))⟩) (by assumption) ?_
          simp only [List.set_cons_zero, List.set_cons_succ]
          refine wpAnyF_ready (rs := [17]) (by kernel_rfl) (by simp) ?_
          refine AllReadyF.cons (o := _) rfl (fun K hK => ?_) AllReadyF.nil
          refine step_enter 71 18 #[.slice As pj.scr.length cs] rfl rfl (by kernel_rfl) ?_
          refine (copied_any wr.drew B pj.scr.length cs As pj.scr HRD (by omega)).mono ?_
          rintro e w5 ⟨A5, c5, rfl, ho5, hb5⟩
          replace HMx := HMx.below hb5 HMx.lt
          replace HOx := own_below HOx hb5
          replace HO2 := own_below HO2 hb5
          replace HIx := HIx.fm (M := fun _ => False) (Fm.of_below hb5) (fun k _ h => h.elim)
          replace HOX := HOX.fm (M := fun _ => False) (Fm.of_below hb5) (fun k _ h => h.elim)
          replace HBx := HBx.trans (hb5.mono HBx.size)
          replace HTx := HTx.below hb5 HTx.lt
          replace HC0 := cell_keep hb5 HC0
          replace HC1 := cell_keep hb5 HC1
          replace ho5 := own_lower ho5 (Nat.zero_le _)
          refine ⟨_, rfl, ?_⟩
          refine hK.out _ _ (.inr (⟨HMx.cell 2, HTx.cell 2, HC0, HC1⟩)) (fun hH => ?_)
          have hHeld := hH.resolve_left (by decide)
          clear hK K hH
          try simp only [List.set_cons_zero, List.set_cons_succ]
          refine f_take 18 72 (.agg #[.int .i64 pj.val, .slice A5 pj.scr.length c5]) rfl rfl (by kernel_rfl) (by kernel_rfl) (by kernel_rfl) (by kernel_rfl) (fun _ _ _ h => h) (Or.inl ⟨wanted_plain rfl _, fun w hSw => exec_build 90 _ rfl rfl (by kernel_rfl)⟩) (by assumption) ?_
          simp only [List.set_cons_zero, List.set_cons_succ]
          refine wpAnyF_ready (rs := [19]) (by kernel_rfl) (by simp) ?_
          refine AllReadyF.cons (o := _) rfl (fun K hK => ?_) AllReadyF.nil
          refine step_val 73 (v := .pointer (some ⟨w5.heap.size, 0, none⟩)) (w' := World.alloc w5 (.cells #[.int .i64 pj.val, .slice A5 pj.scr.length c5] 90)) rfl rfl (by kernel_rfl) ?_
          have hb7 : Below w5.heap.size w5 (World.alloc w5 (.cells #[.int .i64 pj.val, .slice A5 pj.scr.length c5] 90)) := (Below.refl _ _).alloc (Nat.le_refl _) _
          have I7 := Blk.new w5 90 #[.int .i64 pj.val, .slice A5 pj.scr.length c5]
          replace HMx := HMx.below hb7 HMx.lt
          replace HOx := own_below HOx hb7
          replace HO2 := own_below HO2 hb7
          replace HIx := HIx.fm (M := fun _ => False) (Fm.of_below hb7) (fun k _ h => h.elim)
          replace HOX := HOX.fm (M := fun _ => False) (Fm.of_below hb7) (fun k _ h => h.elim)
          replace HBx := HBx.trans (hb7.mono HBx.size)
          replace HTx := HTx.below hb7 HTx.lt
          replace HC0 := cell_keep hb7 HC0
          replace HC1 := cell_keep hb7 HC1
          replace ho5 := own_below ho5 hb7
          clear hb7
          generalize w5.heap.size = ib at *
          generalize World.alloc w5 (.cells #[.int .i64 pj.val, .slice A5 pj.scr.length c5] 90) = w7 at *
          refine hK.out _ _ (.inr (⟨HMx.cell 2, HTx.cell 2, HC0, HC1⟩)) (fun hH => ?_)
          have hHeld := hH.resolve_left (by decide)
          clear hK K hH
          try simp only [List.set_cons_zero, List.set_cons_succ]
          refine wpAnyF_ready (rs := [20]) (by kernel_rfl) (by simp) ?_
          refine AllReadyF.cons (o := _) rfl (fun K hK => ?_) AllReadyF.nil
          refine step_val 74 rfl rfl (w' := World.alloc w7 (.cells #[.pointer (some ⟨ib, 0, none⟩)] 88)) (v := .slice (some ⟨w7.heap.size, 0, none⟩) 1 1) (by kernel_rfl) ?_
          have hb8 : Below w7.heap.size w7 (World.alloc w7 (.cells #[.pointer (some ⟨ib, 0, none⟩)] 88)) := (Below.refl _ _).alloc (Nat.le_refl _) _
          have C8 := Cells.one w7 (.pointer (some ⟨ib, 0, none⟩)) 88
          replace HMx := HMx.below hb8 HMx.lt
          replace HOx := own_below HOx hb8
          replace HO2 := own_below HO2 hb8
          replace HIx := HIx.fm (M := fun _ => False) (Fm.of_below hb8) (fun k _ h => h.elim)
          replace HOX := HOX.fm (M := fun _ => False) (Fm.of_below hb8) (fun k _ h => h.elim)
          replace HBx := HBx.trans (hb8.mono HBx.size)
          replace HTx := HTx.below hb8 HTx.lt
          replace HC0 := cell_keep hb8 HC0
          replace HC1 := cell_keep hb8 HC1
          replace ho5 := own_below ho5 hb8
          replace I7 := I7.below hb8 I7.lt
          clear hb8
          generalize w7.heap.size = b8 at *
          generalize World.alloc w7 (.cells #[.pointer (some ⟨ib, 0, none⟩)] 88) = w8 at *
          refine hK.out _ _ (.inr (⟨HMx.cell 2, HTx.cell 2, HC0, HC1⟩)) (fun hH => ?_)
          have hHeld := hH.resolve_left (by decide)
          clear hK K hH
          try simp only [List.set_cons_zero, List.set_cons_succ]
          refine wpAnyF_ready (rs := [21]) (by kernel_rfl) (by simp) ?_
          refine AllReadyF.cons (o := _) rfl (fun K hK => ?_) AllReadyF.nil
          have hbase := HBx.size
          refine step_app 75 rfl rfl (.tmp 58) (.tmp 74) 77 rfl w.heap.size 88 ip _ 8 Tryz.underlying77 hip hp0 hp1 hp2 rfl (.slice A2 j c2) j vs2 rfl HO2 (some ⟨b8, 0, none⟩) 1 1 [.pointer (some ⟨ib, 0, none⟩)] rfl C8 (by intro u hu; simp at hu; subst hu; rfl) (by omega) (by omega) hbase ?_
          intro v9 w9 hown hgrow hat
          obtain ⟨A9, c9, rfl⟩ := own_form hown
          have hMrow : ∀ k, (Value.slice A2 j c2).ownBlock = some k → w.heap.size ≤ k := fun k hk => (World.ownsRow.lt HO2 k hk).1
          have hOth : Oth w8 (fun k => (Value.slice A2 j c2).ownBlock = some k) := oth_row HO2 (by decide) (by decide) (by decide)
          have hf9 : Fm (fun k => (Value.slice A2 j c2).ownBlock = some k) w8 w9 := Fm.grown (Fm.refl _ _) hgrow (fun k _ h => h)
          have hbO : ∀ k, (Value.slice A2 j c2).ownBlock = some k → b ≠ k := fun k hk e => by have := hMrow k hk; omega
          replace HC0 := (World.cell?_of_block (w := w8) (a := ⟨b, o + j * 2, none⟩) (hf9.block b (World.block_lt_of_cell? w8 _ HC0) (fun h => hbO b h rfl))).trans HC0
          replace HC1 := (World.cell?_of_block (w := w8) (a := ⟨b, o + j * 2 + 1, none⟩) (hf9.block b (World.block_lt_of_cell? w8 _ HC1) (fun h => hbO b h rfl))).trans HC1
          have hrows : ∀ k, (Value.slice A i c).ownBlock = some k → ¬ (Value.slice A2 j c2).ownBlock = some k := fun k h1 h2 => rows_ne HOx HO2 (by decide) k h1 h2
          replace HOx := own_fm HOx hf9 hrows
          replace HMx := HMx.fm hf9 (own_blk_ne HO2 HMx (by decide))
          replace HIx := HIx.fm hf9 hOth
          replace HOX := HOX.fm hf9 hOth
          replace I7 := blk_oth I7 hf9 hOth (.inr (.inl rfl))
          replace ho5 := own_oth ho5 hf9 hOth
          replace HTx := HTx.fm hf9 (own_blk_ne HO2 HTx (by decide))
          replace HBx := HBx.grown hgrow hbase hMrow
          clear hgrow hat C8 hMrow hOth hf9 HO2 hbO hrows
          refine hK.out _ _ (.inr (⟨HMx.cell 2, HTx.cell 2, HC0, HC1⟩)) (fun hH => ?_)
          have hHeld := hH.resolve_left (by decide)
          clear hK K hH
          try simp only [List.set_cons_zero, List.set_cons_succ]
          refine wpAnyF_ready (rs := [22]) (by kernel_rfl) (by simp) ?_
          refine AllReadyF.cons (o := _) rfl (fun K hK => ?_) AllReadyF.nil
          refine step_val 76 (v := .pointer (some ⟨m, 0, none⟩)) (w' := w9) rfl rfl (by kernel_rfl) ?_
          refine hK.out _ _ (.inr (⟨HMx.cell 2, HTx.cell 2, HC0, HC1⟩)) (fun hH => ?_)
          have hHeld := hH.resolve_left (by decide)
          clear hK K hH
          try simp only [List.set_cons_zero, List.set_cons_succ]
          refine wpAnyF_ready (rs := [23]) (by kernel_rfl) (by simp) ?_
          refine AllReadyF.cons (o := _) rfl (fun K hK => ?_) AllReadyF.nil
          refine step_val 77 (v := .pointer (some ⟨m, 2, none⟩)) (w' := w9) rfl rfl (by kernel_rfl) ?_
          refine hK.out _ _ (.inr (⟨HMx.cell 2, HTx.cell 2, HC0, HC1⟩)) (fun hH => ?_)
          have hHeld := hH.resolve_left (by decide)
          clear hK K hH
          try simp only [List.set_cons_zero, List.set_cons_succ]
          refine wpAnyF_ready (rs := [24]) (by kernel_rfl) (by simp) ?_
          refine AllReadyF.cons (o := _) rfl (fun K hK => ?_) AllReadyF.nil
          have m1 := Blk.cell HMx 2
          change _ = some (Value.slice A2 j c2) at m1
          have mf := Blk.frozen HMx 2
          refine step_skip' (w' := w9.setCell ⟨m, 2, none⟩ (.slice A9 (j + 1) c9)) rfl rfl (exec_store 77 (.tmp 77) (.tmp 75) rfl rfl rfl (by go_simp)) ?_
          refine hK.out _ _ (.inl (by decide)) (fun _ => ?_)
          clear hK K
          try simp only [List.set_cons_zero, List.set_cons_succ]
          refine wpAnyF_done (by kernel_rfl) ?_ _
          have hOm : Oth w9 (M1 m) := oth_blk HMx (by decide) (by decide) (by decide)
          have hfm : Fm (M1 m) w9 (w9.setCell ⟨m, 2, none⟩ (.slice A9 (j + 1) c9)) := (Fm.refl _ _).set1 2 _
          have hci : OutX w9 (.pointer (some ⟨ib, 0, none⟩)) pj := ⟨ib, A5, c5, rfl, I7, hl1, ho5⟩
          have HIn := Lib.hid (HIx.fm hfm hOm)
          have HOn := Lib.hid ((HOX.snoc hci).fm hfm hOm)
          have HMn := Lib.hid (HMx.set_ 2 (.slice A9 (j + 1) c9))
          have HRn := Lib.hid (own_set (p := ⟨m, 2, none⟩) hown HMx (by decide) (.slice A9 (j + 1) c9))
          have HRi := Lib.hid (own_set (p := ⟨m, 2, none⟩) HOx HMx (by decide) (.slice A9 (j + 1) c9))
          have HBn := Lib.hid (HBx.setCell (p := ⟨m, 2, none⟩) hmw (.slice A9 (j + 1) c9))
          have HTn := Lib.hid (HTx.far (p := ⟨m, 2, none⟩) hne0 (.slice A9 (j + 1) c9))
          clear hHeld HMx HIx HBx HTx HOX HOx I7 ho5 hown hOm hfm hci m1 mf hip hp0 hp1 hp2 HC0 HC1 HRD
          generalize w9.setCell ⟨m, 2, none⟩ (.slice A9 (j + 1) c9) = w10 at *
          go_wp2_with fail
          have hw1 : (j : Int) + 1 = ((j + 1 : Nat) : Int) := by omega
          go_roundg (no - (j + 1) + 1)
          case measure => have := HKk2.out; omega
          case rel =>
            refine ⟨j + 1, A9, c9, _, rfl, by omega, by rw [← hw1], HMn.out, HRi.out, HIn.out, HRn.out, ?_, HBn.out, HTn.out⟩
            rw [List.take_add_one, HPJ.out]
            exact HOn.out
    · have h1 : (i : Int) < (ni : Int) := by omega
      have h2 : (0 : Int) ≤ (i : Int) := by omega
      obtain ⟨b, o, rfl, hsrc⟩ := HI.out (by omega)
      obtain ⟨pj, hpj⟩ : ∃ v, p.ins[i]? = some v := ⟨p.ins[i]'(by omega), List.getElem?_eq_getElem _⟩
      obtain ⟨As, cs, Aw, cw, wvs, hr, hrd, hcw, hrl⟩ := (hsrc i pj hpj).below hbx
      obtain ⟨hl1, hl2, hl3⟩ := HSI.out pj (List.mem_of_getElem? hpj)
      obtain ⟨x0, x1, x2, x3, x4, x5, x6, x7, x8, x9, x10, x11, x12, x13, x14, x15, x16, x17, x18, x19, x20, x21, x22, x23, x24, x25, x26, x27, x28, x29, x30, x31, hx⟩ := list32 (L := bv pj.h) (by rw [bv_length, pj.hl])
      have himg : (inImg pj (.slice As pj.scr.length cs) (.slice Aw pj.wit.length cw)).toArray = #[x0, x1, x2, x3, x4, x5, x6, x7, x8, x9, x10, x11, x12, x13, x14, x15, x16, x17, x18, x19, x20, x21, x22, x23, x24, x25, x26, x27, x28, x29, x30, x31, .int .u32 pj.idx, .slice As pj.scr.length cs, .slice Aw pj.wit.length cw, .int .u32 pj.seq] := by simp [inImg, hx]
      have himgl : (inImg pj (.slice As pj.scr.length cs) (.slice Aw pj.wit.length cw)).length = 36 := by simp [inImg, hx]
      have hxo : ∀ v ∈ [x0, x1, x2, x3, x4, x5, x6, x7, x8, x9, x10, x11, x12, x13, x14, x15, x16, x17, x18, x19, x20, x21, x22, x23, x24, x25, x26, x27, x28, x29, x30, x31], v.oneCell' = true := by rw [← hx]; exact bv_ones _
      have hone : (#[x0, x1, x2, x3, x4, x5, x6, x7, x8, x9, x10, x11, x12, x13, x14, x15, x16, x17, x18, x19, x20, x21, x22, x23, x24, x25, x26, x27, x28, x29, x30, x31, .int .u32 pj.idx, .slice As pj.scr.length cs, .slice Aw pj.wit.length cw, .int .u32 pj.seq] : Array Value).all (·.oneCell') = true := by
        rw [← himg]
        refine all_oneCell_toArray fun v hv => ?_
        simp only [inImg, List.mem_append, List.mem_cons, List.not_mem_nil, or_false] at hv
        rcases hv with hv | rfl | rfl | rfl | rfl
        · exact bv_ones _ v hv
        · rfl
        · rfl
        · rfl
        · rfl
      have HMx := Lib.hid hMx
      have HOx := Lib.hid hown
      have HIx := Lib.hid hix
      have HBx := Lib.hid hbx
      have HTx := Lib.hid hTx
      have HKk := Lib.hid hk
      have HR := Lib.hid hr
      have HRD := Lib.hid hrd
      have HCW := Lib.hid hcw
      have HRL := Lib.hid hrl
      have HPJ := Lib.hid hpj
      have HX := Lib.hid hx
      have HXO := Lib.hid hxo
      have HONE := Lib.hid hone
      have HIMG := Lib.hid himg
      have HL3 := Lib.hid hl3
      clear hMx hown hix hbx hTx hk hr hrd hcw hrl hpj hx hxo hone himg hl3 hsrc
      go_wp2_with (refine wpList_load_mid rfl 43 (.tmp 23) rfl b (o + i * 36) rfl _ _ HR.out Tryz.underlying43 rfl (by rw [himgl]; exact info_iin) ?_; refine Stop.mk ?_)
      refine Stop.go ?_
      rw [HIMG.out]
      refine wpList_alloc 43 rfl rfl inZero.toArray (by kernel_rfl) ?_
      refine wpList_store_new (w := wr) rfl (.tmp 5) (.tmp 24) 43 rfl rfl _ #[x0, x1, x2, x3, x4, x5, x6, x7, x8, x9, x10, x11, x12, x13, x14, x15, x16, x17, x18, x19, x20, x21, x22, x23, x24, x25, x26, x27, x28, x29, x30, x31, .int .u32 pj.idx, .slice As pj.scr.length cs, .slice Aw pj.wit.length cw, .int .u32 pj.seq] rfl rfl info_iin rfl HONE.out ?_
      have hT5 := Blk.new wr 43 #[x0, x1, x2, x3, x4, x5, x6, x7, x8, x9, x10, x11, x12, x13, x14, x15, x16, x17, x18, x19, x20, x21, x22, x23, x24, x25, x26, x27, x28, x29, x30, x31, .int .u32 pj.idx, .slice As pj.scr.length cs, .slice Aw pj.wit.length cw, .int .u32 pj.seq]
      have hb5 : Below wr.heap.size wr (wr.alloc (.cells #[x0, x1, x2, x3, x4, x5, x6, x7, x8, x9, x10, x11, x12, x13, x14, x15, x16, x17, x18, x19, x20, x21, x22, x23, x24, x25, x26, x27, x28, x29, x30, x31, .int .u32 pj.idx, .slice As pj.scr.length cs, .slice Aw pj.wit.length cw, .int .u32 pj.seq] 43)) := (Below.refl _ _).alloc (Nat.le_refl _) _
      have hwr : w.heap.size ≤ wr.heap.size := HBx.out.size
      have a1 := HMx.out.below hb5 HMx.out.lt
      have a2 := own_below HOx.out hb5
      have a3 := HIx.out.fm (M := fun _ => False) (Fm.of_below hb5) (fun k _ h => h.elim)
      have a4 := HBx.out.trans (hb5.mono hwr)
      have a5 := HTx.out.below hb5 HTx.out.lt
      have a6 := HRD.out.below hb5
      have a7 := HCW.out.below hb5
      have a8 := HRL.out.below hb5
      clear hb5 HMx HOx HIx HBx HTx HR HRD HCW HRL t1
      generalize wr.heap.size = T5 at *
      generalize wr.alloc (.cells #[x0, x1, x2, x3, x4, x5, x6, x7, x8, x9, x10, x11, x12, x13, x14, x15, x16, x17, x18, x19, x20, x21, x22, x23, x24, x25, x26, x27, x28, x29, x30, x31, .int .u32 pj.idx, .slice As pj.scr.length cs, .slice Aw pj.wit.length cw, .int .u32 pj.seq] 43) = W3 at *
      have hTm : T5 ≠ m := Blk.ne_ hT5 a1 (by decide)
      go_upto_region 6 with fail
      have HT5 : Blk W3.drew T5 _ _ := hT5
      have HMx : Blk W3.drew m _ _ := a1
      have HOx : W3.drew.ownsRow w.heap.size 80 1 (.slice A i c) i vs := a2
      have HIx : InsX W3.drew vs ((p.ins.take i).map PI.ti) := a3.fm (M := fun _ => False) ((Fm.refl _ _).drew) (fun k _ h => h.elim)
      have HBx : Below w.heap.size w W3.drew := a4.drew
      have HTx : Blk W3.drew T _ _ := a5
      have HRD : Rd B W3.drew (.slice As pj.scr.length cs) pj.scr := a6
      have HCW : Cells W3.drew Aw pj.wit.length wvs := a7
      have HRL : RdL B W3.drew wvs pj.wit := a8
      clear hT5 a1 a2 a3 a4 a5 a6 a7 a8
      obtain ⟨ip, hip, hp0, hp1, hp2⟩ := info_parts info_pin
      refine wp_region_f_drew (S := (fun w' => w'.cell? ⟨m, 1, none⟩ = some (.slice A i c) ∧ w'.rangeAt T5 0 [x0, x1, x2, x3, x4, x5, x6, x7, x8, x9, x10, x11, x12, x13, x14, x15, x16, x17, x18, x19, x20, x21, x22, x23, x24, x25, x26, x27, x28, x29, x30, x31, .int .u32 pj.idx] ∧ w'.cell? ⟨T5, 33, none⟩ = some (.slice As pj.scr.length cs) ∧ w'.cell? ⟨T5, 34, none⟩ = some (.slice Aw pj.wit.length cw) ∧ w'.cell? ⟨T5, 35, none⟩ = some (.int .u32 pj.seq))) (F := [22]) (by kernel_rfl) (⟨HMx.cell 1, rng33 HT5, HT5.cell 33, HT5.cell 34, HT5.cell 35⟩) (fun hHeld => ?_)
      refine f_take 0 25 (.pointer (some ⟨m, 0, none⟩)) rfl rfl (by kernel_rfl) (by kernel_rfl) (by kernel_rfl) (by kernel_rfl) (fun _ _ _ h => h) (Or.inl ⟨wanted_plain rfl _, fun w hSw => by kernel_rfl⟩) (by assumption) ?_
      simp only [List.set_cons_zero, List.set_cons_succ]
      refine f_take 1 26 (.pointer (some ⟨m, 0, none⟩)) rfl rfl (by kernel_rfl) (by kernel_rfl) (by kernel_rfl) (by kernel_rfl) (fun _ _ _ h => h) (Or.inl ⟨wanted_plain rfl _, fun w hSw => by kernel_rfl⟩) (by assumption) ?_
      simp only [List.set_cons_zero, List.set_cons_succ]
      refine f_take 2 27 (.pointer (some ⟨m, 0, none⟩)) rfl rfl (by kernel_rfl) (by kernel_rfl) (by kernel_rfl) (by kernel_rfl) (fun _ _ _ h => h) (Or.inl ⟨wanted_plain rfl _, fun w hSw => by kernel_rfl⟩) (by assumption) ?_
      simp only [List.set_cons_zero, List.set_cons_succ]
      refine f_take 3 28 (.pointer (some ⟨m, 1, none⟩)) rfl rfl (by kernel_rfl) (by kernel_rfl) (by kernel_rfl) (by kernel_rfl) (fun _ _ _ h => h) (Or.inl ⟨wanted_plain rfl _, fun w hSw => by kernel_rfl⟩) (by assumption) ?_
      simp only [List.set_cons_zero, List.set_cons_succ]
      refine f_take 4 29 (.slice A i c) rfl rfl (by kernel_rfl) (by kernel_rfl) (by kernel_rfl) (by kernel_rfl) (fun _ _ _ h => h) (Or.inl ⟨wanted_plain rfl _, fun w hSw => exec_load 76 (.tmp 28) rfl rfl (by (obtain ⟨g1, g2, g3, g4, g5⟩ := hSw; go_simp))⟩) (by assumption) ?_
      simp only [List.set_cons_zero, List.set_cons_succ]
      refine f_take 5 30 (.pointer (some ⟨T5, 0, none⟩)) rfl rfl (by kernel_rfl) (by kernel_rfl) (by kernel_rfl) (by kernel_rfl) (fun _ _ _ h => h) (Or.inl ⟨wanted_plain rfl _, fun w hSw => by kernel_rfl⟩) (by assumption) ?_
      simp only [List.set_cons_zero, List.set_cons_succ]
      refine f_take 6 31 (.agg #[x0, x1, x2, x3, x4, x5, x6, x7, x8, x9, x10, x11, x12, x13, x14, x15, x16, x17, x18, x19, x20, x21, x22, x23, x24, x25, x26, x27, x28, x29, x30, x31, .int .u32 pj.idx]) rfl rfl (by kernel_rfl) (by kernel_rfl) (by kernel_rfl) (by kernel_rfl) (fun _ _ _ h => h) (Or.inl ⟨wanted_plain rfl _, fun w hSw => exec_load 40 (.tmp 30) rfl rfl (run_loadAt_mid w T5 0 40 _ _ hSw.2.1 Tryz.underlying40 rfl info_iop)⟩) (by assumption) ?_
      simp only [List.set_cons_zero, List.set_cons_succ]
      refine f_take 8 33 (.pointer (some ⟨T5, 33, none⟩)) rfl rfl (by kernel_rfl) (by kernel_rfl) (by kernel_rfl) (by kernel_rfl) (fun _ _ _ h => h) (Or.inl ⟨wanted_plain rfl _, fun w hSw => by kernel_rfl⟩) (by assumption) ?_
      simp only [List.set_cons_zero, List.set_cons_succ]
      refine f_take 9 34 (.slice As pj.scr.length cs) rfl rfl (by kernel_rfl) (by kernel_rfl) (by kernel_rfl) (by kernel_rfl) (fun _ _ _ h => h) (Or.inl ⟨wanted_plain rfl _, fun w hSw => exec_load 30 (.tmp 33) rfl rfl (by (obtain ⟨g1, g2, g3, g4, g5⟩ := hSw; go_simp))⟩) (by assumption) ?_
      simp only [List.set_cons_zero, List.set_cons_succ]
      refine f_take 11 36 (.pointer (some ⟨T5, 34, none⟩)) rfl rfl (by kernel_rfl) (by kernel_rfl) (by kernel_rfl) (by kernel_rfl) (fun _ _ _ h => h) (Or.inl ⟨wanted_plain rfl _, fun w hSw => by kernel_rfl⟩) (by assumption) ?_
      simp only [List.set_cons_zero, List.set_cons_succ]
      refine f_take 12 37 (.slice Aw pj.wit.length cw) rfl rfl (by kernel_rfl) (by kernel_rfl) (by kernel_rfl) (by kernel_rfl) (fun _ _ _ h => h) (Or.inl ⟨wanted_plain rfl _, fun w hSw => exec_load 41 (.tmp 36) rfl rfl (by (obtain ⟨g1, g2, g3, g4, g5⟩ := hSw; go_simp))⟩) (by assumption) ?_
      simp only [List.set_cons_zero, List.set_cons_succ]
      refine f_take 14 39 (.pointer (some ⟨T5, 35, none⟩)) rfl rfl (by kernel_rfl) (by kernel_rfl) (by kernel_rfl) (by kernel_rfl) (fun _ _ _ h => h) (Or.inl ⟨wanted_plain rfl _, fun w hSw => by kernel_rfl⟩) (by assumption) ?_
      simp only [List.set_cons_zero, List.set_cons_succ]
      refine f_take 15 40 (.int .u32 pj.seq) rfl rfl (by kernel_rfl) (by kernel_rfl) (by kernel_rfl) (by kernel_rfl) (fun _ _ _ h => h) (Or.inl ⟨wanted_plain rfl _, fun w hSw => exec_load 25 (.tmp 39) rfl rfl (by (obtain ⟨g1, g2, g3, g4, g5⟩ := hSw; go_simp))⟩) (by assumption) ?_
      simp only [List.set_cons_zero, List.set_cons_succ]
      refine wpAnyF_ready (rs := [7]) (by kernel_rfl) (by simp) ?_
      refine AllReadyF.cons (o := _) rfl (fun K hK => ?_) AllReadyF.nil
      refine step_enter 32 31 #[.agg #[x0, x1, x2, x3, x4, x5, x6, x7, x8, x9, x10, x11, x12, x13, x14, x15, x16, x17, x18, x19, x20, x21, x22, x23, x24, x25, x26, x27, x28, x29, x30, x31, .int .u32 pj.idx]] rfl rfl (by kernel_rfl) ?_
      refine (outPoint_any W3.drew x0 x1 x2 x3 x4 x5 x6 x7 x8 x9 x10 x11 x12 x13 x14 x15 x16 x17 x18 x19 x20 x21 x22 x23 x24 x25 x26 x27 x28 x29 x30 x31 pj.idx HXO.out).mono ?_
      rintro e w4 ⟨rfl, hb4⟩
      replace HMx := HMx.below hb4 HMx.lt
      replace HOx := own_below HOx hb4
      replace HIx := HIx.fm (M := fun _ => False) (Fm.of_below hb4) (fun k _ h => h.elim)
      replace HBx := HBx.trans (hb4.mono HBx.size)
      replace HTx := HTx.below hb4 HTx.lt
      replace HT5 := HT5.below hb4 HT5.lt
      replace HRD := HRD.below hb4
      replace HCW := HCW.below hb4
      replace HRL := HRL.below hb4
      refine ⟨_, rfl, ?_⟩
      refine hK.out _ _ (.inr (⟨HMx.cell 1, rng33 HT5, HT5.cell 33, HT5.cell 34, HT5.cell 35⟩)) (fun hH => ?_)
      have hHeld := hH.resolve_left (by decide)
      clear hK K hH
      try simp only [List.set_cons_zero, List.set_cons_succ]
      refine wpAnyF_ready (rs := [10]) (by kernel_rfl) (by simp) ?_
      refine AllReadyF.cons (o := _) rfl (fun K hK => ?_) AllReadyF.nil
      refine step_enter 35 18 #[.slice As pj.scr.length cs] rfl rfl (by kernel_rfl) ?_
      refine (copied_any w4 B pj.scr.length cs As pj.scr HRD (by omega)).mono ?_
      rintro e w5 ⟨A5, c5, rfl, ho5, hb5⟩
      replace HMx := HMx.below hb5 HMx.lt
      replace HOx := own_below HOx hb5
      replace HIx := HIx.fm (M := fun _ => False) (Fm.of_below hb5) (fun k _ h => h.elim)
      replace HBx := HBx.trans (hb5.mono HBx.size)
      replace HTx := HTx.below hb5 HTx.lt
      replace HT5 := HT5.below hb5 HT5.lt
      replace HCW := HCW.below hb5
      replace HRL := HRL.below hb5
      replace ho5 := own_lower ho5 (Nat.zero_le _)
      refine ⟨_, rfl, ?_⟩
      refine hK.out _ _ (.inr (⟨HMx.cell 1, rng33 HT5, HT5.cell 33, HT5.cell 34, HT5.cell 35⟩)) (fun hH => ?_)
      have hHeld := hH.resolve_left (by decide)
      clear hK K hH
      try simp only [List.set_cons_zero, List.set_cons_succ]
      refine wpAnyF_ready (rs := [13]) (by kernel_rfl) (by simp) ?_
      refine AllReadyF.cons (o := _) rfl (fun K hK => ?_) AllReadyF.nil
      refine step_enter 38 24 #[.slice Aw pj.wit.length cw] rfl rfl (by kernel_rfl) ?_
      refine (copies_any w5 B Aw pj.wit.length cw wvs pj.wit HCW HRL (by omega) HL3.out).mono ?_
      rintro e w6 ⟨A6, c6, vs6, rfl, -, -, hb6⟩
      replace HMx := HMx.below hb6 HMx.lt
      replace HOx := own_below HOx hb6
      replace HIx := HIx.fm (M := fun _ => False) (Fm.of_below hb6) (fun k _ h => h.elim)
      replace HBx := HBx.trans (hb6.mono HBx.size)
      replace HTx := HTx.below hb6 HTx.lt
      replace HT5 := HT5.below hb6 HT5.lt
      replace ho5 := own_below ho5 hb6
      refine ⟨_, rfl, ?_⟩
      refine hK.out _ _ (.inr (⟨HMx.cell 1, rng33 HT5, HT5.cell 33, HT5.cell 34, HT5.cell 35⟩)) (fun hH => ?_)
      have hHeld := hH.resolve_left (by decide)
      clear hK K hH
      try simp only [List.set_cons_zero, List.set_cons_succ]
      refine f_take 16 41 (.agg #[x0, x1, x2, x3, x4, x5, x6, x7, x8, x9, x10, x11, x12, x13, x14, x15, x16, x17, x18, x19, x20, x21, x22, x23, x24, x25, x26, x27, x28, x29, x30, x31, .int .u32 pj.idx, .slice A5 pj.scr.length c5, .slice A6 pj.wit.length c6, .int .u32 pj.seq]) rfl rfl (by kernel_rfl) (by kernel_rfl) (by kernel_rfl) (by kernel_rfl) (fun _ _ _ h => h) (Or.inl ⟨wanted_plain rfl _, fun w hSw => exec_build 87 _ rfl rfl (by kernel_rfl)⟩) (by assumption) ?_
      simp only [List.set_cons_zero, List.set_cons_succ]
      refine wpAnyF_ready (rs := [17]) (by kernel_rfl) (by simp) ?_
      refine AllReadyF.cons (o := _) rfl (fun K hK => ?_) AllReadyF.nil
      refine step_val 42 (v := .pointer (some ⟨w6.heap.size, 0, none⟩)) (w' := World.alloc w6 (.cells #[x0, x1, x2, x3, x4, x5, x6, x7, x8, x9, x10, x11, x12, x13, x14, x15, x16, x17, x18, x19, x20, x21, x22, x23, x24, x25, x26, x27, x28, x29, x30, x31, .int .u32 pj.idx, .slice A5 pj.scr.length c5, .slice A6 pj.wit.length c6, .int .u32 pj.seq] 87)) rfl rfl (by kernel_rfl) ?_
      have hb7 : Below w6.heap.size w6 (World.alloc w6 (.cells #[x0, x1, x2, x3, x4, x5, x6, x7, x8, x9, x10, x11, x12, x13, x14, x15, x16, x17, x18, x19, x20, x21, x22, x23, x24, x25, x26, x27, x28, x29, x30, x31, .int .u32 pj.idx, .slice A5 pj.scr.length c5, .slice A6 pj.wit.length c6, .int .u32 pj.seq] 87)) := (Below.refl _ _).alloc (Nat.le_refl _) _
      have I7 := Blk.new w6 87 #[x0, x1, x2, x3, x4, x5, x6, x7, x8, x9, x10, x11, x12, x13, x14, x15, x16, x17, x18, x19, x20, x21, x22, x23, x24, x25, x26, x27, x28, x29, x30, x31, .int .u32 pj.idx, .slice A5 pj.scr.length c5, .slice A6 pj.wit.length c6, .int .u32 pj.seq]
      have hib := HBx.size
      replace HMx := HMx.below hb7 HMx.lt
      replace HOx := own_below HOx hb7
      replace HIx := HIx.fm (M := fun _ => False) (Fm.of_below hb7) (fun k _ h => h.elim)
      replace HBx := HBx.trans (hb7.mono HBx.size)
      replace HTx := HTx.below hb7 HTx.lt
      replace HT5 := HT5.below hb7 HT5.lt
      replace ho5 := own_below ho5 hb7
      clear hb7
      generalize w6.heap.size = ib at *
      generalize World.alloc w6 (.cells #[x0, x1, x2, x3, x4, x5, x6, x7, x8, x9, x10, x11, x12, x13, x14, x15, x16, x17, x18, x19, x20, x21, x22, x23, x24, x25, x26, x27, x28, x29, x30, x31, .int .u32 pj.idx, .slice A5 pj.scr.length c5, .slice A6 pj.wit.length c6, .int .u32 pj.seq] 87) = w7 at *
      refine hK.out _ _ (.inr (⟨HMx.cell 1, rng33 HT5, HT5.cell 33, HT5.cell 34, HT5.cell 35⟩)) (fun hH => ?_)
      have hHeld := hH.resolve_left (by decide)
      clear hK K hH
      try simp only [List.set_cons_zero, List.set_cons_succ]
      refine wpAnyF_ready (rs := [18]) (by kernel_rfl) (by simp) ?_
      refine AllReadyF.cons (o := _) rfl (fun K hK => ?_) AllReadyF.nil
      refine step_val 43 rfl rfl (w' := World.alloc w7 (.cells #[.pointer (some ⟨ib, 0, none⟩)] 80)) (v := .slice (some ⟨w7.heap.size, 0, none⟩) 1 1) (by kernel_rfl) ?_
      have hb8 : Below w7.heap.size w7 (World.alloc w7 (.cells #[.pointer (some ⟨ib, 0, none⟩)] 80)) := (Below.refl _ _).alloc (Nat.le_refl _) _
      have C8 := Cells.one w7 (.pointer (some ⟨ib, 0, none⟩)) 80
      replace HMx := HMx.below hb8 HMx.lt
      replace HOx := own_below HOx hb8
      replace HIx := HIx.fm (M := fun _ => False) (Fm.of_below hb8) (fun k _ h => h.elim)
      replace HBx := HBx.trans (hb8.mono HBx.size)
      replace HTx := HTx.below hb8 HTx.lt
      replace HT5 := HT5.below hb8 HT5.lt
      replace ho5 := own_below ho5 hb8
      replace I7 := I7.below hb8 I7.lt
      clear hb8
      generalize w7.heap.size = b8 at *
      generalize World.alloc w7 (.cells #[.pointer (some ⟨ib, 0, none⟩)] 80) = w8 at *
      refine hK.out _ _ (.inr (⟨HMx.cell 1, rng33 HT5, HT5.cell 33, HT5.cell 34, HT5.cell 35⟩)) (fun hH => ?_)
      have hHeld := hH.resolve_left (by decide)
      clear hK K hH
      try simp only [List.set_cons_zero, List.set_cons_succ]
      refine wpAnyF_ready (rs := [19]) (by kernel_rfl) (by simp) ?_
      refine AllReadyF.cons (o := _) rfl (fun K hK => ?_) AllReadyF.nil
      have hbase := HBx.size
      refine step_app 44 rfl rfl (.tmp 29) (.tmp 43) 76 rfl w.heap.size 80 ip _ 8 Tryz.underlying76 hip hp0 hp1 hp2 rfl (.slice A i c) i vs rfl HOx (some ⟨b8, 0, none⟩) 1 1 [.pointer (some ⟨ib, 0, none⟩)] rfl C8 (by intro u hu; simp at hu; subst hu; rfl) (by omega) (by omega) hbase ?_
      intro v9 w9 hown hgrow hat
      obtain ⟨A9, c9, rfl⟩ := own_form hown
      have hMrow : ∀ k, (Value.slice A i c).ownBlock = some k → w.heap.size ≤ k := fun k hk => (World.ownsRow.lt HOx k hk).1
      have hOth : Oth w8 (fun k => (Value.slice A i c).ownBlock = some k) := oth_row HOx (by decide) (by decide) (by decide)
      have hf9 : Fm (fun k => (Value.slice A i c).ownBlock = some k) w8 w9 := Fm.grown (Fm.refl _ _) hgrow (fun k _ h => h)
      replace HMx := HMx.fm hf9 (own_blk_ne HOx HMx (by decide))
      replace HIx := HIx.fm hf9 hOth
      replace I7 := blk_oth I7 hf9 hOth (.inl rfl)
      replace ho5 := own_oth ho5 hf9 hOth
      replace HTx := HTx.fm hf9 (own_blk_ne HOx HTx (by decide))
      replace HT5 := HT5.fm hf9 (own_blk_ne HOx HT5 (by decide))
      replace HBx := HBx.grown hgrow hbase hMrow
      clear hgrow hat C8 hMrow hOth hf9 HOx
      refine hK.out _ _ (.inr (⟨HMx.cell 1, rng33 HT5, HT5.cell 33, HT5.cell 34, HT5.cell 35⟩)) (fun hH => ?_)
      have hHeld := hH.resolve_left (by decide)
      clear hK K hH
      try simp only [List.set_cons_zero, List.set_cons_succ]
      refine wpAnyF_ready (rs := [20]) (by kernel_rfl) (by simp) ?_
      refine AllReadyF.cons (o := _) rfl (fun K hK => ?_) AllReadyF.nil
      refine step_val 45 (v := .pointer (some ⟨m, 0, none⟩)) (w' := w9) rfl rfl (by kernel_rfl) ?_
      refine hK.out _ _ (.inr (⟨HMx.cell 1, rng33 HT5, HT5.cell 33, HT5.cell 34, HT5.cell 35⟩)) (fun hH => ?_)
      have hHeld := hH.resolve_left (by decide)
      clear hK K hH
      try simp only [List.set_cons_zero, List.set_cons_succ]
      refine wpAnyF_ready (rs := [21]) (by kernel_rfl) (by simp) ?_
      refine AllReadyF.cons (o := _) rfl (fun K hK => ?_) AllReadyF.nil
      refine step_val 46 (v := .pointer (some ⟨m, 1, none⟩)) (w' := w9) rfl rfl (by kernel_rfl) ?_
      refine hK.out _ _ (.inr (⟨HMx.cell 1, rng33 HT5, HT5.cell 33, HT5.cell 34, HT5.cell 35⟩)) (fun hH => ?_)
      have hHeld := hH.resolve_left (by decide)
      clear hK K hH
      try simp only [List.set_cons_zero, List.set_cons_succ]
      refine wpAnyF_ready (rs := [22]) (by kernel_rfl) (by simp) ?_
      refine AllReadyF.cons (o := _) rfl (fun K hK => ?_) AllReadyF.nil
      have m1 := Blk.cell HMx 1
      change _ = some (Value.slice A i c) at m1
      have mf := Blk.frozen HMx 1
      refine step_skip' (w' := w9.setCell ⟨m, 1, none⟩ (.slice A9 (i + 1) c9)) rfl rfl (exec_store 76 (.tmp 46) (.tmp 44) rfl rfl rfl (by go_simp)) ?_
      refine hK.out _ _ (.inl (by decide)) (fun _ => ?_)
      clear hK K
      try simp only [List.set_cons_zero, List.set_cons_succ]
      refine wpAnyF_done (by kernel_rfl) ?_ _
      have hOm : Oth w9 (M1 m) := oth_blk HMx (by decide) (by decide) (by decide)
      have hfm : Fm (M1 m) w9 (w9.setCell ⟨m, 1, none⟩ (.slice A9 (i + 1) c9)) := (Fm.refl _ _).set1 1 _
      have hci : InX w9 (.pointer (some ⟨ib, 0, none⟩)) pj.ti := ⟨ib, ⟨pj.h, pj.hl, pj.idx, .slice A5 pj.scr.length c5, .slice A6 pj.wit.length c6, rfl, pj.seq⟩, A5, c5, rfl, by
        have e : (Ci.cells ⟨pj.h, pj.hl, pj.idx, .slice A5 pj.scr.length c5, .slice A6 pj.wit.length c6, rfl, pj.seq⟩).toArray = #[x0, x1, x2, x3, x4, x5, x6, x7, x8, x9, x10, x11, x12, x13, x14, x15, x16, x17, x18, x19, x20, x21, x22, x23, x24, x25, x26, x27, x28, x29, x30, x31, .int .u32 pj.idx, .slice A5 pj.scr.length c5, .slice A6 pj.wit.length c6, .int .u32 pj.seq] := by simp [Ci.cells, HX.out]
        rw [e]; exact I7, rfl, rfl, rfl, rfl, hl1, ho5⟩
      have HIn := Lib.hid ((HIx.snoc hci).fm hfm hOm)
      have HMn := Lib.hid (HMx.set_ 1 (.slice A9 (i + 1) c9))
      have HOn := Lib.hid (own_set (p := ⟨m, 1, none⟩) hown HMx (by decide) (.slice A9 (i + 1) c9))
      have HBn := Lib.hid (HBx.setCell (p := ⟨m, 1, none⟩) hmw (.slice A9 (i + 1) c9))
      have HTn := Lib.hid (HTx.far (p := ⟨m, 1, none⟩) hne0 (.slice A9 (i + 1) c9))
      clear hHeld HMx HIx HBx HTx HT5 I7 ho5 hown hOm hfm hci m1 mf hip hp0 hp1 hp2
      generalize w9.setCell ⟨m, 1, none⟩ (.slice A9 (i + 1) c9) = w10 at *
      go_wp2_with fail
      have hw1 : (i : Int) + 1 = ((i + 1 : Nat) : Int) := by omega
      go_roundg (ni - (i + 1) + 1)
      case measure => have := HKk.out; omega
      case rel =>
        refine ⟨i + 1, A9, c9, _, rfl, by omega, by rw [← hw1], HMn.out, HOn.out, ?_, HBn.out, HTn.out⟩
        rw [List.take_add_one, HPJ.out, List.map_append]
        exact HIn.out
end Go.Proofs.YtkgihpebghmnbaaGreatDoor
