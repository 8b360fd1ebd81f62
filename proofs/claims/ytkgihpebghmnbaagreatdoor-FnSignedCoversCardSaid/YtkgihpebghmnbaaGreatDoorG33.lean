/- The hash of a signature, kind 3. (Printed by gen_sig.py.) The hash of a signature. -/
import Derived.Test.YtkgihpebghmnbaaGreatDoorG30
import Derived.Test.YtkgihpebghmnbaaGreatDoorG31
import Derived.Test.YtkgihpebghmnbaaGreatDoorSig2
namespace Go.Proofs.YtkgihpebghmnbaaGreatDoor
open Go.RowKit Go.Proofs

set_option maxRecDepth 100000

set_option maxHeartbeats 8000000 in
theorem sig3_any (kc : Nat → Int) (B : Nat) (w : World) (m q n c idx : Nat) (A : Option Addr) (ts : List Tok) (t : TX) (kind : Int) (any : Bool) (hk : KT kc w) (ht : TxAt B w m q t) (hB : B ≤ w.heap.size) (hrd : Rd 0 w (.slice A n c) (code ts)) (hA : ∀ x y, A = some ⟨x, y, none⟩ → x < w.heap.size)
    (hts : ∀ t ∈ ts, TokS t) (hop : ∀ t ∈ ts, t.op ≠ 171) (hn0 : 0 < n) (hn : n ≤ 100000) (hix : idx < t.ins.length) (hi : t.ins.length ≤ 1000000) (ho : t.outs.length ≤ 1000000) (hb : bits .and .u32 kind 31 = 3) (hany : bits .and .u32 kind 128 = if any then 128 else 0) (hout : idx < t.outs.length) :
    Calls Tryz.prog 30 #[.slice A n c, .int .u32 kind, .pointer (some ⟨m, q, none⟩), .int .i64 idx] w fun e w' =>
      ∃ g, e = .returned (.slice (some ⟨g, 0, none⟩) 32 32) ∧ w.heap.size ≤ g ∧ Blk w' g 81 (bv (sigHash kc (code ts) kind 3 any idx t)).toArray ∧ Below w.heap.size w w' := by
  have hlen : (code ts).length = n := hrd.len.1.symm
  have hnc : n ≤ c := hrd.len.2
  have hm := ht.lt
  have hkn := Blk.new w 60 #[.int .u32 kind]
  have hb1 := (Below.refl w.heap.size w).alloc (Nat.le_refl _) (.cells #[.int .u32 kind] 60)
  have hs1 : w.heap.size < (w.alloc (.cells #[.int .u32 kind] 60)).heap.size := by simp
  have hrd1 : Rd 0 (w.alloc (.cells #[.int .u32 kind] 60)) (.slice A n c) (code ts) := hrd.below hb1
  have ht1 := ht.below (hb1.mono hB)
  have HRM := Lib.hid (removeRaw_any (w.alloc (.cells #[.int .u32 kind] 60)) n c A ts 171 hrd1 hts hop hn0 hn)
  have HC := Lib.hid (Cells.of_rd hrd)
  have HK := Lib.hid hk
  have HT1 := Lib.hid ht1
  have HB1 := Lib.hid hb1
  have HKN := Lib.hid hkn
  have HA := Lib.hid hA
  have HANY := Lib.hid hany
  clear hk ht hrd hA hts hop hb1 hrd1 ht1 hkn hany
  go_enter Tryz.func30, Tryz.ntmps30
  obtain ⟨Ai, ci, Ao, co, vi, vo, e1, -, -, -, -, -, -⟩ := HT1.out.ex
  have y2 := e1.c2
  have hlo : ¬ ((t.outs.length : Int) ≤ (idx : Int)) := by omega
  clear e1
  go_wp2_with fail
  generalize hkk : w.heap.size = kb at *
  generalize w.alloc (.cells #[.int .u32 kind] 60) = w1 at *
  refine HRM.out.mono ?_
  rintro e w2 ⟨rfl, hb2⟩
  have b2 : Below kb w w2 := HB1.out.trans (hb2.mono (by omega))
  have ht2 := HT1.out.below (hb2.mono (by omega))
  have k2 := HKN.out.below hb2 HKN.out.lt
  have HS := Lib.hid (shallow_any B w2 m q t ht2 (by have := hb2.size; omega) hi ho)
  have HB2 := Lib.hid b2
  have HK2 := Lib.hid k2
  have hwk : w1.heap.size ≤ w2.heap.size := hb2.size
  clear b2 ht2 k2 hb2 HRM HB1 HKN HT1
  go_wp2_with fail
  refine HS.out.mono ?_
  rintro e w3 ⟨P, Q, R, S, CP, CR, CQ, CS, rfl, hPw, hQw, hRw, hSw, hP, hPs, hPp, hR, hRs, hRr, hQ, hQs, hQp, hS, hSs, hSr, hb3⟩
  have hr2 : RowsOf 36 CR t.ins.length (PIn w2.heap.size w2 t.ins) := hRr.mono (fun j cs _ hp => by
    obtain ⟨ti, ci, a1, a2, a3⟩ := hp
    exact ⟨ti, ci, a1, a2, a3.lift (by omega)⟩)
  have hs2 : RowsOf 2 CS t.outs.length (POut w2.heap.size w2 t.outs) := hSr.mono (fun j cs _ hp => by
    obtain ⟨ti, ci, a1, a2, a3⟩ := hp
    exact ⟨ti, ci, a1, a2, a3.lift (by omega)⟩)
  clear hRr hSr HS
  have HP := Lib.hid hP
  have HPp := Lib.hid hPp
  have HR := Lib.hid hR
  have HRr := Lib.hid hr2
  have HQ := Lib.hid hQ
  have HQp := Lib.hid hQp
  have HS := Lib.hid hS
  have HSr := Lib.hid hs2
  have HB3 := Lib.hid hb3
  have HK3 := Lib.hid (HK2.out.below hb3 HK2.out.lt)
  have hsz3 := hb3.size
  clear hP hPp hR hr2 hQ hQp hS hs2 hb3 HK2
  generalize hni : t.ins.length = ni at *
  generalize hno : t.outs.length = no at *
  go_wp2_with (refine wpList_alloc 79 rfl rfl #[.int .i32 0, .slice none 0 0, .slice none 0 0, .int .u32 0] (by kernel_rfl) ?_; refine Stop.mk ?_)
  refine Stop.go ?_
  refine wpList_store_new (w := w3) rfl (.tmp 10) (.tmp 33) 79 rfl rfl _ #[.int .i32 t.ver, .slice (some ⟨P, 0, none⟩) ni ni, .slice (some ⟨Q, 0, none⟩) no no, .int .u32 t.lock] rfl rfl info_mtx rfl (by kernel_rfl) ?_
  have hT := Blk.new w3 79 #[.int .i32 t.ver, .slice (some ⟨P, 0, none⟩) ni ni, .slice (some ⟨Q, 0, none⟩) no no, .int .u32 t.lock]
  have a1 := HP.out.alloc (.cells #[.int .i32 t.ver, .slice (some ⟨P, 0, none⟩) ni ni, .slice (some ⟨Q, 0, none⟩) no no, .int .u32 t.lock] 79)
  have a2 := HR.out.alloc (.cells #[.int .i32 t.ver, .slice (some ⟨P, 0, none⟩) ni ni, .slice (some ⟨Q, 0, none⟩) no no, .int .u32 t.lock] 79)
  have a3 := HQ.out.alloc (.cells #[.int .i32 t.ver, .slice (some ⟨P, 0, none⟩) ni ni, .slice (some ⟨Q, 0, none⟩) no no, .int .u32 t.lock] 79)
  have a4 := HS.out.alloc (.cells #[.int .i32 t.ver, .slice (some ⟨P, 0, none⟩) ni ni, .slice (some ⟨Q, 0, none⟩) no no, .int .u32 t.lock] 79)
  have a5 := HK3.out.alloc (.cells #[.int .i32 t.ver, .slice (some ⟨P, 0, none⟩) ni ni, .slice (some ⟨Q, 0, none⟩) no no, .int .u32 t.lock] 79)
  have a6 := HB3.out.alloc hsz3 (.cells #[.int .i32 t.ver, .slice (some ⟨P, 0, none⟩) ni ni, .slice (some ⟨Q, 0, none⟩) no no, .int .u32 t.lock] 79)
  generalize hTT : w3.heap.size = T at *
  generalize w3.alloc (.cells #[.int .i32 t.ver, .slice (some ⟨P, 0, none⟩) ni ni, .slice (some ⟨Q, 0, none⟩) no no, .int .u32 t.lock] 79) = w4 at *
  have hTP : T ≠ P := Blk.ne_ hT a1 (by decide)
  have hTR : T ≠ R := Blk.ne_ hT a2 (by decide)
  have hTQ : T ≠ Q := Blk.ne_ hT a3 (by decide)
  have hTS : T ≠ S := Blk.ne_ hT a4 (by decide)
  have hTk : T ≠ kb := Blk.ne_ hT a5 (by decide)
  have hPR : P ≠ R := Blk.ne_ a1 a2 (by decide)
  have hPS : P ≠ S := Blk.ne_ a1 a4 (by decide)
  have hQR : Q ≠ R := Blk.ne_ a3 a2 (by decide)
  have hQS : Q ≠ S := Blk.ne_ a3 a4 (by decide)
  have hRS : R ≠ S := Blk.ne_ a2 a4 (by decide)
  have hkR : kb ≠ R := Blk.ne_ a5 a2 (by decide)
  have hkS : kb ≠ S := Blk.ne_ a5 a4 (by decide)
  have y1 := hT.cell 1
  change _ = some (Value.slice (some ⟨P, 0, none⟩) ni ni) at y1
  have HT4 := Lib.hid hT
  have HP4 := Lib.hid a1
  have HR4 := Lib.hid a2
  have HQ4 := Lib.hid a3
  have HS4 := Lib.hid a4
  have HK4 := Lib.hid a5
  have HB4 := Lib.hid a6
  clear hT a1 a2 a3 a4 a5 a6 HP HR HQ HS HK3 HB3
  go_wp2_with fail
  go_loopg [11, 37] (ni + 1) (fun k s11 s37 wx => ∃ i CRx, k = ni - i + 1 ∧ i ≤ ni ∧ s37 = .int .i64 i ∧ Blk wx R 87 CRx ∧ CRx.size = ni * 36 ∧ RowsOf 36 CRx ni (PIn w2.heap.size w2 (part (fScr (code ts) idx) t.ins i)) ∧ Fm (M1 R) w4 wx)
  case atStart => exact ⟨0, CR, rfl, Nat.zero_le _, rfl, HR4.out, hRs, by rw [part_zero]; exact HRr.out, Fm.refl _ _⟩
  case round =>
    obtain ⟨i, CRx, hk, hin, rfl, hRx, hRs, hRr, hf⟩ := hrel
    by_cases h0 : i = ni
    · subst h0
      have hd : decide ((i : Int) < i) = false := by simp
      rw [part_all _ _ _ (by omega)] at hRr
      have t5 := HT4.out.fm hf (show ¬ M1 R T from hTR)
      have p5 := HP4.out.fm hf (show ¬ M1 R P from hPR)
      have q5 := HQ4.out.fm hf (show ¬ M1 R Q from hQR)
      have s5 := HS4.out.fm hf (show ¬ M1 R S from Ne.symm hRS)
      have k5 := HK4.out.fm hf (show ¬ M1 R kb from hkR)
      have b5 := Below.fm HB4.out hf (by have := HB4.out.size; omega) (fun j hj (hm : j = R) => by omega)
      have kc5 := k5.cell 0
      change _ = some (Value.int .u32 kind) at kc5
      have HT5 := Lib.hid t5
      have HP5 := Lib.hid p5
      have HQ5 := Lib.hid q5
      have HS5 := Lib.hid s5
      have HK5 := Lib.hid k5
      have HB5 := Lib.hid b5
      have HR5 := Lib.hid hRx
      have HRr5 := Lib.hid hRr
      have HKk := Lib.hid hk
      clear t5 p5 q5 s5 k5 b5 hf hRx hRr hk HT4 HP4 HQ4 HS4 HK4 HB4 HR4 y1
      have y2 := HT5.out.cell 2
      change _ = some (Value.slice (some ⟨Q, 0, none⟩) no no) at y2
      have fz2 := HT5.out.frozen 2
      have hRs5 := Lib.hid hRs
      have i3 : (idx : Int) + 1 ≤ (no : Int) := by omega
      clear hRs
      go_upto_region 27 with fail
      have t6 := HT5.out.set_ 2 (.slice (some ⟨Q, 0, none⟩) (idx + 1) no)
      have p6 := HP5.out.far (p := ⟨T, 2, none⟩) (Ne.symm hTP) (.slice (some ⟨Q, 0, none⟩) (idx + 1) no)
      have r6 := HR5.out.far (p := ⟨T, 2, none⟩) (Ne.symm hTR) (.slice (some ⟨Q, 0, none⟩) (idx + 1) no)
      have q6 := HQ5.out.far (p := ⟨T, 2, none⟩) (Ne.symm hTQ) (.slice (some ⟨Q, 0, none⟩) (idx + 1) no)
      have s6 := HS5.out.far (p := ⟨T, 2, none⟩) (Ne.symm hTS) (.slice (some ⟨Q, 0, none⟩) (idx + 1) no)
      have k6 := HK5.out.far (p := ⟨T, 2, none⟩) (Ne.symm hTk) (.slice (some ⟨Q, 0, none⟩) (idx + 1) no)
      have b6 := HB5.out.setCell (p := ⟨T, 2, none⟩) hsz3 (.slice (some ⟨Q, 0, none⟩) (idx + 1) no)
      clear HT5 HP5 HR5 HQ5 HS5 HK5 HB5
      generalize wr.setCell ⟨T, 2, none⟩ (.slice (some ⟨Q, 0, none⟩) (idx + 1) no) = w7 at *
      have HT7 := Lib.hid t6
      have HP7 := Lib.hid p6
      have HR7 := Lib.hid r6
      have HQ7 := Lib.hid q6
      have HS7 := Lib.hid s6
      have HK7 := Lib.hid k6
      have HB7 := Lib.hid b6
      clear t6 p6 r6 q6 s6 k6 b6
      clear y2 fz2 kc5
      go_upto_region 27 with fail
      have hSs5 := hSs
      go_wp2_with fail
      go_loopg [13] (idx + 1) (fun k s13 wx => ∃ j CSx, k = idx - j + 1 ∧ j ≤ idx ∧ s13 = .int .i64 j ∧ Blk wx S 90 CSx ∧ CSx.size = no * 2 ∧ RowsOf 2 CSx no (POut w2.heap.size w2 (part fOut t.outs j)) ∧ Fm (M1 S) w7 wx)
      case atStart => exact ⟨0, _, rfl, Nat.zero_le _, rfl, HS7.out, hSs5, by rw [part_zero]; exact HSr.out, Fm.refl _ _⟩
      case round =>
        obtain ⟨j, CSy, hk, hjn, rfl, hSx, hSs, hSr, hf⟩ := hrel
        by_cases h0 : j = idx
        · subst j
          have hd : decide ((idx : Int) < idx) = false := by simp
          have t5 := HT7.out.fm hf (show ¬ M1 S T from hTS)
          have p5 := HP7.out.fm hf (show ¬ M1 S P from hPS)
          have q5 := HQ7.out.fm hf (show ¬ M1 S Q from hQS)
          have k5 := HK7.out.fm hf (show ¬ M1 S kb from hkS)
          have r5 := HR7.out.fm hf (show ¬ M1 S R from hRS)
          have b5 := Below.fm HB7.out hf (by have := HB7.out.size; omega) (fun j hj (hm : j = S) => by omega)
          clear HT7 HP7 HQ7 HR7 HK7 HB7 HS7
          have HT7 := Lib.hid t5
          have HP7 := Lib.hid p5
          have HQ7 := Lib.hid q5
          have HR7 := Lib.hid r5
          have HK7 := Lib.hid k5
          have HB7 := Lib.hid b5
          have HS7 := Lib.hid hSx
          have HSr5 := Lib.hid hSr
          have HKk3 := Lib.hid hk
          clear t5 p5 q5 r5 k5 b5 hf hSx hSr hk
          generalize hw7 : wr = w8 at *
          have y1 := HT7.out.cell 1
          change _ = some (Value.slice (some ⟨P, 0, none⟩) i i) at y1
          go_wp2_with fail
          go_loopg [14, 118] (i + 1) (fun k s11 s37 wx => ∃ j CRx, k = i - j + 1 ∧ j ≤ i ∧ s37 = .int .i64 j ∧ Blk wx R 87 CRx ∧ CRx.size = i * 36 ∧ RowsOf 36 CRx i (PIn w2.heap.size w2 (part (fSeq idx) (t.ins.mapIdx (fScr (code ts) idx)) j)) ∧ Fm (M1 R) w8 wx)
          case atStart => exact ⟨0, _, rfl, Nat.zero_le _, rfl, HR7.out, hRs5.out, by rw [part_zero]; exact HRr5.out, Fm.refl _ _⟩
          case round =>
            obtain ⟨j, CRy, hk, hjn, rfl, hRx, hRs, hRr, hf⟩ := hrel
            by_cases h0 : j = i
            · subst h0
              have hd : decide ((j : Int) < j) = false := by simp
              rw [part_all _ _ _ (by simp; omega)] at hRr
              have t5 := HT7.out.fm hf (show ¬ M1 R T from hTR)
              have p5 := HP7.out.fm hf (show ¬ M1 R P from hPR)
              have q5 := HQ7.out.fm hf (show ¬ M1 R Q from hQR)
              have k5 := HK7.out.fm hf (show ¬ M1 R kb from hkR)
              have s5 := HS7.out.fm hf (show ¬ M1 R S from Ne.symm hRS)
              have b5 := Below.fm HB7.out hf (by have := HB7.out.size; omega) (fun j hj (hm : j = R) => by omega)
              clear HT7 HP7 HQ7 HS7 HK7 HB7 HR7 HRr5 y1
              have HT5 := Lib.hid t5
              have HP5 := Lib.hid p5
              have HQ5 := Lib.hid q5
              have HS5 := Lib.hid s5
              have HK5 := Lib.hid k5
              have HB5 := Lib.hid b5
              have HR5 := Lib.hid hRx
              have HRr5 := Lib.hid hRr
              have HKk2 := Lib.hid hk
              clear t5 p5 q5 s5 k5 b5 hf hRx hRr hk hRs5
              have hKT : KT kc wr := HK.out.below (w' := wr) (by rw [hkk]; exact HB2.out.trans (HB5.out.mono (by omega)))
              have hlk := HK5.out.cell 0
              change _ = some (Value.int .u32 kind) at hlk
              cases any with
              | false =>
                have hany0 : bits .and .u32 kind 128 = 0 := HANY.out
                have htx : TxAt wr.heap.size wr T 0 (sigTx (code ts) 3 false idx t) := tx_at HT5.out HP5.out HPp.out HR5.out HRr5.out HQ5.out HQp.out HS5.out HSr5.out HB5.out (Nat.le_of_eq (Nat.zero_add _)) (by simp [hni]) (by omega) (by simp [part, hno]) (by rw [List.drop_zero, List.take_of_length_le (by simp [hni])]; simp [sigTx, sigIns, sigOuts])
                have HD := Lib.hid (dsig_any kc wr T kb _ kind hKT htx hlk (by simp [sigTx, sigIns, hni] <;> omega) (by simp [sigTx, sigOuts, part, hno] <;> omega))
                clear htx hKT HT5 HP5 HR5 HRr5 HQ5 HS5 HSr5 HPp HQp
                go_wp2_with fail
                refine HD.out.mono ?_
                rintro e w6 ⟨rfl, b6⟩
                have hC : (bv ((feedSig kc (sigTx (code ts) 3 false idx t) kind).out2 kc)).toArray.size = 32 := by simp [bv_length, out2_length]
                have hone := bv_one ((feedSig kc (sigTx (code ts) 3 false idx t) kind).out2 kc)
                have hz3 := info_hash32
                rw [← hC] at hz3
                have HB6 := Lib.hid (HB5.out.trans (b6.mono HB5.out.size))
                clear b6
                generalize hCe : (bv ((feedSig kc (sigTx (code ts) 3 false idx t) kind).out2 kc)).toArray = C at *
                go_wp2_with (refine wpList_alloc 81 rfl rfl (Array.replicate 32 (.int .u8 0)) (by kernel_rfl) ?_; refine Stop.mk ?_)
                refine Stop.go ?_
                refine wpList_store_new (w := w6) rfl (.tmp 15) (.tmp 143) 81 rfl rfl _ C rfl rfl hz3 (by rw [hC]; rfl) hone ?_
                go_wp2
                go_ret
                have hb9 := HB2.out.trans (HB6.out.mono (by omega))
                refine ⟨_, rfl, by have := HB6.out.size; omega, ?_, ?_⟩
                · unfold sigHash
                  rw [if_neg (by omega), hCe]
                  exact Blk.new _ _ _
                · rw [hkk]
                  exact hb9.alloc (by rw [← hkk]; exact hb9.size) _
              | true =>
                have hany1 : bits .and .u32 kind 128 = 128 := HANY.out
                have i1 : (idx : Int) + 1 ≤ (j : Int) := by omega
                have y1 := HT5.out.cell 1
                change _ = some (Value.slice (some ⟨P, 0, none⟩) j j) at y1
                have fz := HT5.out.frozen 1
                go_upto_region 40 with fail
                have t6 := HT5.out.set_ 1 (.slice (some ⟨P, idx, none⟩) 1 (j - idx))
                have p6 := HP5.out.far (p := ⟨T, 1, none⟩) (Ne.symm hTP) (.slice (some ⟨P, idx, none⟩) 1 (j - idx))
                have r6 := HR5.out.far (p := ⟨T, 1, none⟩) (Ne.symm hTR) (.slice (some ⟨P, idx, none⟩) 1 (j - idx))
                have q6 := HQ5.out.far (p := ⟨T, 1, none⟩) (Ne.symm hTQ) (.slice (some ⟨P, idx, none⟩) 1 (j - idx))
                have s6 := HS5.out.far (p := ⟨T, 1, none⟩) (Ne.symm hTS) (.slice (some ⟨P, idx, none⟩) 1 (j - idx))
                have k6 := HK5.out.far (p := ⟨T, 1, none⟩) (Ne.symm hTk) (.slice (some ⟨P, idx, none⟩) 1 (j - idx))
                have b6 := HB5.out.setCell (p := ⟨T, 1, none⟩) hsz3 (.slice (some ⟨P, idx, none⟩) 1 (j - idx))
                generalize wr.setCell ⟨T, 1, none⟩ (.slice (some ⟨P, idx, none⟩) 1 (j - idx)) = w7 at *
                have hlk7 := k6.cell 0
                change _ = some (Value.int .u32 kind) at hlk7
                have hKT7 : KT kc w7 := HK.out.below (w' := w7) (by rw [hkk]; exact HB2.out.trans (b6.mono (by omega)))
                have htx : TxAt w7.heap.size w7 T 0 (sigTx (code ts) 3 true idx t) := tx_at (i := idx) (mi := 1) t6 p6 HPp.out r6 HRr5.out q6 HQp.out s6 HSr5.out b6 (by omega) (by simp [hni]) (by omega) (by simp [part, hno]) (by simp [sigTx, sigIns, sigOuts])
                have HD := Lib.hid (dsig_any kc w7 T kb _ kind hKT7 htx hlk7 (by simp [sigTx, sigIns, hni] <;> omega) (by simp [sigTx, sigOuts, part, hno] <;> omega))
                have HB7 := Lib.hid b6
                clear htx hKT hKT7 t6 p6 r6 q6 s6 k6 b6 HT5 HP5 HR5 HRr5 HQ5 HS5 HSr5 HPp HQp HB5 HK5 hlk
                go_wp2_with fail
                refine HD.out.mono ?_
                rintro e w6 ⟨rfl, b6⟩
                have hC : (bv ((feedSig kc (sigTx (code ts) 3 true idx t) kind).out2 kc)).toArray.size = 32 := by simp [bv_length, out2_length]
                have hone := bv_one ((feedSig kc (sigTx (code ts) 3 true idx t) kind).out2 kc)
                have hz3 := info_hash32
                rw [← hC] at hz3
                have HB6 := Lib.hid (HB7.out.trans (b6.mono HB7.out.size))
                clear b6
                generalize hCe : (bv ((feedSig kc (sigTx (code ts) 3 true idx t) kind).out2 kc)).toArray = C at *
                go_wp2_with (refine wpList_alloc 81 rfl rfl (Array.replicate 32 (.int .u8 0)) (by kernel_rfl) ?_; refine Stop.mk ?_)
                refine Stop.go ?_
                refine wpList_store_new (w := w6) rfl (.tmp 15) (.tmp 143) 81 rfl rfl _ C rfl rfl hz3 (by rw [hC]; rfl) hone ?_
                go_wp2
                go_ret
                have hb9 := HB2.out.trans (HB6.out.mono (by omega))
                refine ⟨_, rfl, by have := HB6.out.size; omega, ?_, ?_⟩
                · unfold sigHash
                  rw [if_neg (by omega), hCe]
                  exact Blk.new _ _ _
                · rw [hkk]
                  exact hb9.alloc (by rw [← hkk]; exact hb9.size) _
            · have h1 : (j : Int) < (i : Int) := by omega
              have h2 : (0 : Int) ≤ (j : Int) := by omega
              obtain ⟨ti, hti⟩ : ∃ v, ((t.ins.mapIdx (fScr (code ts) idx)))[j]? = some v := ⟨((t.ins.mapIdx (fScr (code ts) idx)))[j]'(by simp; omega), List.getElem?_eq_getElem _⟩
              have y1 := (HT7.out.fm hf (show ¬ M1 R T from hTR)).cell 1
              change _ = some (Value.slice (some ⟨P, 0, none⟩) i i) at y1
              have p1 := ((HP7.out.fm hf (show ¬ M1 R P from hPR)).cell j).trans (HPp.out j (by omega))
              have fz := hRx.frozen (j * 36 + 35)
              obtain ⟨u, hu⟩ : ∃ u, wr.cell? ⟨R, j * 36 + 35, none⟩ = some u := ⟨CRy[j * 36 + 35]'(by omega), (hRx.cell _).trans (Array.getElem?_eq_getElem _)⟩
              have HRx := Lib.hid hRx
              have HRr' := Lib.hid hRr
              have HF := Lib.hid hf
              have HTI := Lib.hid hti
              have HKk2 := Lib.hid hk
              clear hRx hRr hf hti hk
              by_cases hjj : j = idx
              · subst hjj
                go_wp2_with fail
                have hw1 : (j : Int) + 1 = ((j + 1 : Nat) : Int) := by omega
                go_roundg (i - (j + 1) + 1)
                case measure => have := HKk2.out; omega
                case rel =>
                  refine ⟨j + 1, _, rfl, by omega, by rw [← hw1], HRx.out, hRs, ?_, HF.out⟩
                  rw [part_skip _ _ _ ti HTI.out (if_pos rfl)]
                  exact HRr'.out
              · have hne : ¬ ((j : Int) = (idx : Int)) := by omega
                go_wp2_with fail
                have hw1 : (j : Int) + 1 = ((j + 1 : Nat) : Int) := by omega
                go_roundg (i - (j + 1) + 1)
                case measure => have := HKk2.out; omega
                case rel =>
                  refine ⟨j + 1, _, rfl, by omega, by rw [← hw1], HRx.out.set_ (j * 36 + 35) _, by simpa using hRs, ?_, HF.out.set1 _ _⟩
                  rw [part_succ _ _ _ ti HTI.out, fSeq, if_neg hjj]
                  exact rows_seq HRr'.out (by omega) (part_get _ _ _ _ HTI.out)
        · have h1 : (j : Int) < (idx : Int) := by omega
          have h2 : (0 : Int) ≤ (j : Int) := by omega
          have h3 : (j : Int) < (idx : Int) + 1 := by omega
          obtain ⟨ti, hti⟩ : ∃ v, t.outs[j]? = some v := ⟨t.outs[j]'(by omega), List.getElem?_eq_getElem _⟩
          have y2 := (HT7.out.fm hf (show ¬ M1 S T from hTS)).cell 2
          change _ = some (Value.slice (some ⟨Q, 0, none⟩) (idx + 1) no) at y2
          have q1 := ((HQ7.out.fm hf (show ¬ M1 S Q from hQS)).cell j).trans (HQp.out j (by omega))
          have fz := hSx.frozen
          obtain ⟨u0, hu0⟩ : ∃ u, wr.cell? ⟨S, j * 2, none⟩ = some u := ⟨CSy[j * 2]'(by omega), (hSx.cell _).trans (Array.getElem?_eq_getElem _)⟩
          obtain ⟨u1, hu1⟩ : ∃ u, wr.cell? ⟨S, j * 2 + 1, none⟩ = some u := ⟨CSy[j * 2 + 1]'(by omega), (hSx.cell _).trans (Array.getElem?_eq_getElem _)⟩
          have HSx := Lib.hid hSx
          have HSr' := Lib.hid hSr
          have HF := Lib.hid hf
          have HTI := Lib.hid hti
          have HKk2 := Lib.hid hk
          have hsT : T ≠ S := hTS
          have hsQ : Q ≠ S := hQS
          clear hSx hSr hf hti hk
          go_wp2_with fail
          have hw1 : (j : Int) + 1 = ((j + 1 : Nat) : Int) := by omega
          go_roundg (idx - (j + 1) + 1)
          case measure => have := HKk2.out; omega
          case rel =>
            refine ⟨j + 1, _, rfl, by omega, by rw [← hw1], (HSx.out.set_ (j * 2) _).set_ (j * 2 + 1) _, by simpa using hSs, ?_, (HF.out.set1 _ _).set1 _ _⟩
            rw [part_succ _ _ _ ti HTI.out]
            exact rows_out HSr'.out (by omega) (part_get _ _ _ _ HTI.out)
    · have h1 : (i : Int) < (ni : Int) := by omega
      have h2 : (0 : Int) ≤ (i : Int) := by omega
      obtain ⟨ti, hti⟩ : ∃ v, t.ins[i]? = some v := ⟨t.ins[i]'(by omega), List.getElem?_eq_getElem _⟩
      have y1 := (HT4.out.fm hf (show ¬ M1 R T from hTR)).cell 1
      change _ = some (Value.slice (some ⟨P, 0, none⟩) ni ni) at y1
      have p1 := ((HP4.out.fm hf (show ¬ M1 R P from hPR)).cell i).trans (HPp.out i (by omega))
      have fz := hRx.frozen (i * 36 + 33)
      obtain ⟨u, hu⟩ : ∃ u, wr.cell? ⟨R, i * 36 + 33, none⟩ = some u := ⟨CRx[i * 36 + 33]'(by omega), (hRx.cell _).trans (Array.getElem?_eq_getElem _)⟩
      have HRx := Lib.hid hRx
      have HRr' := Lib.hid hRr
      have HF := Lib.hid hf
      have HTI := Lib.hid hti
      have HKk := Lib.hid hk
      clear hRx hRr hf hti hk
      by_cases hii : i = idx
      · subst hii
        go_wp2_with fail
        have hw1 : (i : Int) + 1 = ((i + 1 : Nat) : Int) := by omega
        go_roundg (ni - (i + 1) + 1)
        case measure => have := HKk.out; omega
        case rel =>
          refine ⟨i + 1, _, rfl, by omega, by rw [← hw1], HRx.out.set_ (i * 36 + 33) _, by simpa using hRs, ?_, HF.out.set1 _ _⟩
          rw [part_succ _ _ _ ti HTI.out, fScr, if_pos rfl, ← hlen]
          exact rows_scr HRr'.out (by omega) (part_get _ _ _ _ HTI.out) (by omega) (by omega) (by rw [hlen]; exact cells_below (by rw [← hkk] at HB2 HA ⊢; exact HB2.out) HC.out HA.out) (fun x y e => by have := HA.out x y e; omega)
      · have hne : ¬ ((i : Int) = (idx : Int)) := by omega
        go_wp2_with fail
        have hw1 : (i : Int) + 1 = ((i + 1 : Nat) : Int) := by omega
        go_roundg (ni - (i + 1) + 1)
        case measure => have := HKk.out; omega
        case rel =>
          refine ⟨i + 1, _, rfl, by omega, by rw [← hw1], HRx.out.set_ (i * 36 + 33) _, by simpa using hRs, ?_, HF.out.set1 _ _⟩
          rw [part_succ _ _ _ ti HTI.out, fScr, if_neg hii]
          exact rows_scr (scr := []) HRr'.out (by omega) (part_get _ _ _ _ HTI.out) (Nat.le_refl _) (by simp) ⟨rfl, fun h => absurd h (by simp)⟩ (fun x y e => by cases e)
end Go.Proofs.YtkgihpebghmnbaaGreatDoor

namespace Go.Proofs.YtkgihpebghmnbaaGreatDoor
open Go.RowKit Go.Proofs

set_option maxRecDepth 100000

set_option maxHeartbeats 2000000 in
theorem sig0_any (kc : Nat → Int) (B : Nat) (w : World) (m q n c idx : Nat) (A : Option Addr) (scr : List UInt8) (t : TX) (kind : Int) (any : Bool) (ht : TxAt B w m q t) (hB : B ≤ w.heap.size) (hb : bits .and .u32 kind 31 = 3) (hout : t.outs.length ≤ idx) :
    Calls Tryz.prog 30 #[.slice A n c, .int .u32 kind, .pointer (some ⟨m, q, none⟩), .int .i64 idx] w fun e w' =>
      ∃ g, e = .returned (.slice (some ⟨g, 0, none⟩) 32 32) ∧ w.heap.size ≤ g ∧ Blk w' g 81 (bv (sigHash kc scr kind 3 any idx t)).toArray ∧ Below w.heap.size w w' := by
  have hkn := Blk.new w 60 #[.int .u32 kind]
  have hb1 := (Below.refl w.heap.size w).alloc (Nat.le_refl _) (.cells #[.int .u32 kind] 60)
  have ht1 := ht.below (hb1.mono hB)
  obtain ⟨Ai, ci, Ao, co, vi, vo, e1, -, -, -, -, -, -⟩ := ht1.ex
  have y2 := e1.c2
  have hlo : (t.outs.length : Int) ≤ (idx : Int) := by omega
  have hh : sigHash kc scr kind 3 any idx t = 1 :: List.replicate 31 0 := if_pos ⟨rfl, hout⟩
  have HB := Lib.hid hb1
  clear e1 ht1 ht hb1
  go_enter Tryz.func30, Tryz.ntmps30
  go_upto_region 2 with fail
  generalize w.alloc (.cells #[.int .u32 kind] 60) = w1 at *
  go_wp2_with (refine wpList_alloc 81 rfl rfl (Array.replicate 32 (.int .u8 0)) (by kernel_rfl) ?_; refine Stop.mk ?_)
  refine Stop.go ?_
  have hg := Blk.new w1 81 (Array.replicate 32 (.int .u8 0))
  have hb2 := HB.out.alloc HB.out.size (.cells (Array.replicate 32 (.int .u8 0)) 81)
  have hgs := HB.out.size
  have c0 := hg.cell 0
  change _ = some (Value.int .u8 0) at c0
  have fz := hg.frozen 0
  generalize w1.heap.size = g at *
  generalize w1.alloc (.cells (Array.replicate 32 (.int .u8 0)) 81) = w2 at *
  have HG := Lib.hid hg
  have HB2 := Lib.hid hb2
  clear hg hb2 HB
  go_wp2
  go_ret
  refine ⟨g, rfl, hgs, ?_, HB2.out.setCell (p := ⟨g, 0, none⟩) hgs _⟩
  rw [hh]
  exact HG.out.set_ 0 _

theorem sig_any (kc : Nat → Int) (B : Nat) (w : World) (m q n c idx : Nat) (A : Option Addr) (ts : List Tok) (t : TX) (kind : Int) (b : Nat) (any : Bool) (hk : KT kc w) (ht : TxAt B w m q t) (hB : B ≤ w.heap.size) (hrd : Rd 0 w (.slice A n c) (code ts)) (hA : ∀ x y, A = some ⟨x, y, none⟩ → x < w.heap.size)
    (hts : ∀ t ∈ ts, TokS t) (hop : ∀ t ∈ ts, t.op ≠ 171) (hn0 : 0 < n) (hn : n ≤ 100000) (hix : idx < t.ins.length) (hi : t.ins.length ≤ 1000000) (ho : t.outs.length ≤ 1000000) (hb : bits .and .u32 kind 31 = b) (hb3 : b = 1 ∨ b = 2 ∨ b = 3) (hany : bits .and .u32 kind 128 = if any then 128 else 0) :
    Calls Tryz.prog 30 #[.slice A n c, .int .u32 kind, .pointer (some ⟨m, q, none⟩), .int .i64 idx] w fun e w' =>
      ∃ g, e = .returned (.slice (some ⟨g, 0, none⟩) 32 32) ∧ w.heap.size ≤ g ∧ Blk w' g 81 (bv (sigHash kc (code ts) kind b any idx t)).toArray ∧ Below w.heap.size w w' := by
  rcases hb3 with rfl | rfl | rfl
  · exact sig1_any kc B w m q n c idx A ts t kind any hk ht hB hrd hA hts hop hn0 hn hix hi ho hb hany
  · exact sig2_any kc B w m q n c idx A ts t kind any hk ht hB hrd hA hts hop hn0 hn hix hi ho hb hany
  · by_cases hout : idx < t.outs.length
    · exact sig3_any kc B w m q n c idx A ts t kind any hk ht hB hrd hA hts hop hn0 hn hix hi ho hb hany hout
    · exact sig0_any kc B w m q n c idx A (code ts) t kind any ht hB hb (by omega)

/-- CalcSignatureHash. -/
theorem calcSig_any (kc : Nat → Int) (B : Nat) (w : World) (m q n c idx : Nat) (A : Option Addr) (ts : List Tok) (t : TX) (kind : Int) (b : Nat) (any : Bool) (hk : KT kc w) (ht : TxAt B w m q t) (hB : B ≤ w.heap.size) (hrd : Rd 0 w (.slice A n c) (code ts)) (hA : ∀ x y, A = some ⟨x, y, none⟩ → x < w.heap.size)
    (hts : ∀ t ∈ ts, TokS t) (hop : ∀ t ∈ ts, t.op ≠ 171) (hn0 : 0 < n) (hn : n ≤ 100000) (hix : idx < t.ins.length) (hi : t.ins.length ≤ 1000000) (ho : t.outs.length ≤ 1000000) (hb : bits .and .u32 kind 31 = b) (hb3 : b = 1 ∨ b = 2 ∨ b = 3) (hany : bits .and .u32 kind 128 = if any then 128 else 0) :
    Calls Tryz.prog 17 #[.slice A n c, .int .u32 kind, .pointer (some ⟨m, q, none⟩), .int .i64 idx] w fun e w' =>
      ∃ g, e = .returned (.tuple #[.slice (some ⟨g, 0, none⟩) 32 32, .nilIface]) ∧ w.heap.size ≤ g ∧ Blk w' g 81 (bv (sigHash kc (code ts) kind b any idx t)).toArray ∧ Below w.heap.size w w' := by
  have HP := Lib.hid (parses w n c A ts hrd hts hn)
  have HK := Lib.hid hk
  have HT := Lib.hid ht
  have HR := Lib.hid hrd
  have HA := Lib.hid hA
  have HTS := Lib.hid hts
  have HOP := Lib.hid hop
  have HBB := Lib.hid hb
  have HB3 := Lib.hid hb3
  have HANY := Lib.hid hany
  clear hk ht hrd hA hts hop hb hb3 hany
  go_enter Tryz.func17, Tryz.ntmps17
  go_wp2_with fail
  refine HP.out.mono ?_
  rintro e w1 ⟨rfl, hb1⟩
  have HS := Lib.hid (sig_any kc B w1 m q n c idx A ts t kind b any (HK.out.below hb1) (HT.out.below (hb1.mono hB)) (Nat.le_trans hB hb1.size) (HR.out.below hb1) (fun x y e => Nat.lt_of_lt_of_le (HA.out x y e) hb1.size) HTS.out HOP.out hn0 hn hix hi ho HBB.out HB3.out HANY.out)
  have HB1 := Lib.hid hb1
  clear hb1 HP HK HT HR HA HTS HOP HBB HB3 HANY
  go_wp2_with fail
  refine HS.out.mono ?_
  rintro e w2 ⟨g, rfl, hg, hg2, hb2⟩
  have HG := Lib.hid hg2
  have HB2 := Lib.hid (HB1.out.trans (hb2.mono HB1.out.size))
  have hgw : w.heap.size ≤ g := Nat.le_trans HB1.out.size hg
  clear hg2 hb2 hg HS
  go_wp2
  go_ret2
  exact ⟨g, rfl, hgw, HG.out, HB2.out⟩
end Go.Proofs.YtkgihpebghmnbaaGreatDoor
