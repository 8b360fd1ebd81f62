/- Bytes compared as strings. A script out of which no push of some bytes is taken. The hash of a signature, kind 1. (Printed by gen_sig.py.) -/
import Derived.Test.YtkgihpebghmnbaaGreatDoorG07
import Derived.Laws.IdiomStrings
import Derived.Laws.BytesArg
import Derived.Test.YtkgihpebghmnbaaGreatDoorG25
import Derived.OwnWalk
import Derived.Test.YtkgihpebghmnbaaGreatDoorG30
namespace Go.Proofs.YtkgihpebghmnbaaGreatDoor
open Go.RowKit Go.Proofs

set_option maxRecDepth 100000

theorem str_of {w : World} {A : Option Addr} {n c : Nat} {bs : List UInt8} (h : Cells w A n (bv bs)) : (convert 30 9 (.slice A n c)).run Tryz.prog w = .ok (.string ⟨bs.toArray⟩) w := by
  have hl : bs.length = n := by rw [← bv_length]; exact h.1
  have hs : Tryz.prog.underlying 9 = some .string := by kernel_rfl
  have hu : Tryz.prog.underlying 5 = some (.int .u8) := by kernel_rfl
  rcases Nat.eq_zero_or_pos n with h0 | h0
  · subst h0
    have : bs = [] := List.eq_nil_of_length_eq_zero hl
    subst this
    rcases A with _ | a
    · exact run_convert_bytes_nil w 30 5 Tryz.underlying30 hu 0 c _ hs
    · exact run_convert_bytes_back w 30 9 5 a c [] Tryz.underlying30 hu hs (fun j hj => absurd hj (by simp))
  · obtain ⟨b, o, rfl, hc⟩ := h.2 h0
    subst hl
    exact run_convert_bytes_back w 30 9 5 ⟨b, o, none⟩ c bs Tryz.underlying30 hu hs (fun j hj => by
      rw [addr_add]
      exact hc j _ (by rw [bv_get, List.getElem?_eq_getElem hj]; rfl))

theorem bytes_eq (w : World) (x y : List UInt8) : (binOp .eql 9 (.string ⟨x.toArray⟩) (.string ⟨y.toArray⟩)).run Tryz.prog w = .ok (.bool (x == y)) w := by
  go_simp
theorem bytesEqual_any (w : World) (A1 A2 : Option Addr) (n1 n2 c1 c2 : Nat) (x y : List UInt8) (h1 : Cells w A1 n1 (bv x)) (h2 : Cells w A2 n2 (bv y)) :
    Calls Tryz.prog 81 #[.slice A1 n1 c1, .slice A2 n2 c2] w fun e w' => e = .returned (.bool (x == y)) ∧ w' = w := by
  have s1 := str_of (c := c1) h1
  have s2 := str_of (c := c2) h2
  have he := bytes_eq w x y
  go_enter Tryz.func81, Tryz.ntmps81
  go_wp2
  go_ret
  exact ⟨rfl, rfl⟩
end Go.Proofs.YtkgihpebghmnbaaGreatDoor

namespace Go.Proofs.YtkgihpebghmnbaaGreatDoor
open Go.RowKit Go.Proofs

set_option maxRecDepth 100000

/-- A token that is no push, or one in the shortest way. -/
def Canon (t : Tok) : Prop := (96 < t.op ∧ t.op ≤ 255 ∧ t.data = []) ∨ (2 ≤ t.op ∧ t.op ≤ 75 ∧ t.data.length = t.op)

theorem canon_any (w : World) (op n c : Nat) (A : Option Addr) (h : (96 < op ∧ op ≤ 255) ∨ (2 ≤ op ∧ op ≤ 75 ∧ n = op)) :
    Calls Tryz.prog 188 #[.int .u8 op, .slice A n c] w fun e w' => e = .returned (.bool true) ∧ w = w' := by
  rcases h with ⟨h1, h2⟩ | ⟨h1, h2, rfl⟩
  · have g1 : (96 : Int) < (op : Int) := by omega
    go_enter Tryz.func188, Tryz.ntmps188
    go_wp2
    go_ret
    exact ⟨rfl, rfl⟩
  · have g1 : ¬ ((96 : Int) < (n : Int)) := by omega
    have g2 : (n : Int) < 76 := by omega
    have g3 : (0 : Int) < (n : Int) := by omega
    have g4 : ¬ ((n : Int) = 1) := by omega
    have g5 : ¬ ((n : Int) = 76) := by omega
    have g6 : ¬ ((n : Int) = 77) := by omega
    have g7 : ¬ ((n : Int) = 78) := by omega
    go_enter Tryz.func188, Tryz.ntmps188
    go_wp2
    go_ret
    exact ⟨rfl, rfl⟩

set_option maxHeartbeats 2000000 in
theorem rmCanon_any (w : World) (T ob x op dn dc nd cd ns cs : Nat) (dA Ad As : Option Addr) (y : Int) (data rem : List UInt8) (h4 : w.cell? ⟨T, 4, none⟩ = some (.pointer (some ⟨ob, 0, none⟩))) (h0 : w.cell? ⟨ob, 0, none⟩ = some (.int .u8 op))
    (h5 : w.cell? ⟨T, 5, none⟩ = some (.slice dA dn dc)) (h2 : w.cell? ⟨T, 2, none⟩ = some (.int .i32 x)) (hcn : (96 < op ∧ op ≤ 255) ∨ (2 ≤ op ∧ op ≤ 75 ∧ dn = op)) (hd : Cells w dA dn (bv data)) (hr : Cells w Ad nd (bv rem)) (hne : data ≠ rem) :
    Calls Tryz.prog 237 #[.pointer (some ⟨T, 0, none⟩), .slice As ns cs, .slice Ad nd cd, .int .i32 y, .slice none 0 0] w fun e w' => e = .returned (.tuple #[.slice none 0 0, .int .i32 x, .bool false]) ∧ w = w' := by
  have H1 := Lib.hid (tokOp_any w T 0 ob op h4 h0)
  have H2 := Lib.hid (tokData_any w T 0 _ h5 ⟨_, _, _, rfl⟩)
  have H3 := Lib.hid (tokAt_any w T 0 x h2)
  have H4 := Lib.hid (canon_any w op dn dc dA hcn)
  have H5 := Lib.hid (bytesEqual_any w dA Ad dn nd dc cd data rem hd hr)
  have hq : (data == rem) = false := by simpa using hne
  have hnn := nil_ne
  clear h4 h0 h5 h2 hcn hd hr hne
  go_enter Tryz.func237, Tryz.ntmps237
  go_wp2_with fail
  refine H1.out.mono ?_
  rintro e w1 ⟨rfl, rfl⟩
  go_wp2_with fail
  refine H2.out.mono ?_
  rintro e w1 ⟨rfl, rfl⟩
  go_wp2_with fail
  refine H4.out.mono ?_
  rintro e w1 ⟨rfl, rfl⟩
  go_wp2_with fail
  refine H5.out.mono ?_
  rintro e w1 ⟨rfl, rfl⟩
  rw [hq]
  go_wp2_with fail
  refine H3.out.mono ?_
  rintro e w1 ⟨rfl, rfl⟩
  go_wp2
  go_ret3
  exact ⟨rfl, rfl⟩

set_option maxHeartbeats 2000000 in
/-- A script without a push of these bytes stays as it is. -/
theorem removeData_any (w : World) (n c nd cd : Nat) (A Ad : Option Addr) (ts : List Tok) (rem : List UInt8) (hrd : Rd 0 w (.slice A n c) (code ts)) (hts : ∀ t ∈ ts, TokS t) (hcn : ∀ t ∈ ts, Canon t) (hne : ∀ t ∈ ts, t.data ≠ rem) (hr : Rd 0 w (.slice Ad nd cd) rem) (hn0 : 0 < n) (hn : n ≤ 100000) (hd0 : 0 < nd) :
    Calls Tryz.prog 215 #[.slice A n c, .slice Ad nd cd] w fun e w' => e = .returned (.tuple #[.slice A n c, .bool false]) ∧ Below w.heap.size w w' := by
  have HR := Lib.hid hrd
  have HT := Lib.hid hts
  have HCN := Lib.hid hcn
  have HNE := Lib.hid hne
  have HRM := Lib.hid hr
  have HL := Lib.hid hrd.len
  have hn1 : ¬ ((n : Int) = 0) := by omega
  have hn2 : ¬ ((nd : Int) = 0) := by omega
  have hn3 : ((n : Int) == 0) = false := by simp; omega
  have hn4 : ((nd : Int) == 0) = false := by simp; omega
  have hnq := nil_eq
  clear hrd hts hcn hne hr
  go_enter Tryz.func215, Tryz.ntmps215
  go_wp2_with fail
  refine (mkTok_any w A n c).mono ?_
  rintro e w1 ⟨rfl, hb1⟩
  have HB1 := Lib.hid hb1
  clear hb1
  go_wp2_with fail
  have hblk := Blk.new w1 104 #[.slice A n c, .int .u16 0, .int .i32 0, .int .i32 (-1), .pointer none, .slice none 0 0, .nilIface]
  have hbel : Below w.heap.size w (w1.alloc (.cells #[.slice A n c, .int .u16 0, .int .i32 0, .int .i32 (-1), .pointer none, .slice none 0 0, .nilIface] 104)) := HB1.out.alloc HB1.out.size _
  have hT : w.heap.size ≤ w1.heap.size := HB1.out.size
  generalize w1.heap.size = T at *
  have HI : Hid (∃ done rest cs, ts = done ++ rest ∧ ts.length = rest.length ∧ Blk (w1.alloc (.cells #[.slice A n c, .int .u16 0, .int .i32 0, .int .i32 (-1), .pointer none, .slice none 0 0, .nilIface] 104)) T 104 cs ∧
      TokC cs 0 (.slice A n c) (code done).length ((done.length : Int) - 1) ∧ Below w.heap.size w (w1.alloc (.cells #[.slice A n c, .int .u16 0, .int .i32 0, .int .i32 (-1), .pointer none, .slice none 0 0, .nilIface] 104))) :=
    ⟨[], ts, _, rfl, rfl, hblk, ⟨rfl, ⟨_, rfl⟩, rfl, rfl, ⟨_, rfl⟩, ⟨_, rfl⟩, rfl⟩, hbel⟩
  clear hblk hbel
  generalize w1.alloc (.cells #[.slice A n c, .int .u16 0, .int .i32 0, .int .i32 (-1), .pointer none, .slice none 0 0, .nilIface] 104) = w2 at *
  go_loopg [6, 7, 8] (ts.length + 1) (fun k s6 s7 s8 wx => ∃ done rest cs, ts = done ++ rest ∧ k = rest.length + 1 ∧ s6 = .slice none 0 0 ∧ (∃ y : Int, s7 = .int .i32 y) ∧ s8 = .bool false ∧ Blk wx T 104 cs ∧
      TokC cs 0 (.slice A n c) (code done).length ((done.length : Int) - 1) ∧ Below w.heap.size w wx)
  case atStart =>
    obtain ⟨done, rest, cs, h1, h2, h3⟩ := HI.out
    exact ⟨done, rest, cs, h1, by rw [h2], rfl, ⟨_, rfl⟩, rfl, h3⟩
  case round =>
    obtain ⟨done, rest, cs, hts, rfl, rfl, ⟨y, rfl⟩, rfl, hblk, hC, hbel⟩ := hrel
    have hrd' : Rd 0 wr (.slice A n c) (code ts) := HR.out.below hbel
    have hcl : (code ts).length = n := HL.out.1.symm
    have hdl : done.length ≤ n := by
      have h1 := code_len_le done
      have h2 := congrArg List.length (code_append done rest)
      rw [← hts] at h2
      simp at h2
      omega
    cases rest with
    | nil =>
      have hoff : (code done).length = n := by rw [← hcl, hts]; simp
      rw [hoff] at hC
      have HN := Lib.hid (next_end wr T 0 n c A cs _ _ hblk hC hn)
      have HX := Lib.hid hbel
      clear hblk hC hbel hrd' HI
      go_wp2_with fail
      refine HN.out.mono ?_
      rintro e w3 ⟨rfl, k3, rfl⟩
      have HX' := HX.out
      go_wp2
      go_ret2
      exact ⟨rfl, ⟨HX'.os, HX'.tape, HX'.output, HX'.size, HX'.block⟩⟩
    | cons t rest =>
      have htm : t ∈ ts := by rw [hts]; simp
      have hdrop : (code ts).drop (code done).length = t.enc ++ code rest := by
        rw [hts, code_append]; simp [code]
      have HIts := Lib.hid (Its.m1 (B := 0) hblk (by simp [Sx]) (Nat.zero_le _))
      have HN := Lib.hid (next_tok wr T 0 _ n c (code done).length A cs _ t (code ts) (code rest) hblk hC hrd' (fun ds t' fr hh => by
        unfold Blk at hblk; rw [hblk] at hh; injection hh with hh; injection hh with _ e; subst e; simp [Sx]) hdrop (HT.out t htm) hn (by omega) (by omega))
      have HX := Lib.hid hbel
      have HC := Lib.hid hC
      clear hblk hC hbel hrd' HI
      go_wp2_with fail
      refine HN.out.mono ?_
      rintro e w3 ⟨rfl, nm, ⟨ln, hob⟩, dA, dc, hdr, hblk3, hf3⟩
      obtain ⟨g4, g5, g2⟩ := tokSet_get (p := (done.length : Int) - 1 + 1) (x := (code done).length + t.enc.length) (op := .pointer (some ⟨wr.heap.size, 0, none⟩)) (d := .slice dA t.data.length dc) HC.out
      have hcc : (96 < t.op ∧ t.op ≤ 255) ∨ (2 ≤ t.op ∧ t.op ≤ 75 ∧ t.data.length = t.op) := (HCN.out t htm).imp (fun h => ⟨h.1, h.2.1⟩) id
      have hb3 := Below.fm HX.out hf3 HX.out.size (fun j hj hm => by unfold M1 at hm; omega)
      have HCa := Lib.hid (rmCanon_any w3 T wr.heap.size ((code done).length + t.enc.length) t.op t.data.length dc nd cd n c dA Ad A y t.data rem ((hblk3.cell _).trans g4) (hob.cell 0) ((hblk3.cell _).trans g5) ((hblk3.cell _).trans g2) hcc (Cells.of_rd (hdr.fm hf3 HIts.out)) (Cells.of_rd (HRM.out.below hb3)) (HNE.out t htm))
      have hblk3 := Lib.hid hblk3
      have hf3 := Lib.hid hb3
      clear hob g4 g5 g2 hdr hb3
      go_wp2_with fail
      refine HCa.out.mono ?_
      rintro e w4 ⟨rfl, rfl⟩
      go_wp2_with fail
      go_roundg (rest.length + 1)
      case measure => simp
      case rel =>
        refine ⟨done ++ [t], rest, _, by rw [hts]; simp, rfl, rfl, ⟨_, rfl⟩, rfl, hblk3.out, ?_, hf3.out⟩
        have hc := HC.out.next ((code done).length + t.enc.length) ((done.length : Int) - 1 + 1) (.pointer (some ⟨wr.heap.size, 0, none⟩)) (.slice dA t.data.length dc)
        have e1 : (code (done ++ [t])).length = (code done).length + t.enc.length := by rw [code_append]; simp [code]
        have e2 : (((done ++ [t]).length : Nat) : Int) - 1 = (done.length : Int) - 1 + 1 := by simp
        rw [e1, e2]
        exact hc
end Go.Proofs.YtkgihpebghmnbaaGreatDoor

namespace Go.Proofs.YtkgihpebghmnbaaGreatDoor
open Go.RowKit Go.Proofs

set_option maxRecDepth 100000

set_option maxHeartbeats 8000000 in
theorem sig1_any (kc : Nat → Int) (B : Nat) (w : World) (m q n c idx : Nat) (A : Option Addr) (ts : List Tok) (t : TX) (kind : Int) (any : Bool) (hk : KT kc w) (ht : TxAt B w m q t) (hB : B ≤ w.heap.size) (hrd : Rd 0 w (.slice A n c) (code ts)) (hA : ∀ x y, A = some ⟨x, y, none⟩ → x < w.heap.size)
    (hts : ∀ t ∈ ts, TokS t) (hop : ∀ t ∈ ts, t.op ≠ 171) (hn0 : 0 < n) (hn : n ≤ 100000) (hix : idx < t.ins.length) (hi : t.ins.length ≤ 1000000) (ho : t.outs.length ≤ 1000000) (hb : bits .and .u32 kind 31 = 1) (hany : bits .and .u32 kind 128 = if any then 128 else 0) :
    Calls Tryz.prog 30 #[.slice A n c, .int .u32 kind, .pointer (some ⟨m, q, none⟩), .int .i64 idx] w fun e w' =>
      ∃ g, e = .returned (.slice (some ⟨g, 0, none⟩) 32 32) ∧ w.heap.size ≤ g ∧ Blk w' g 81 (bv (sigHash kc (code ts) kind 1 any idx t)).toArray ∧ Below w.heap.size w w' := by
  have hlen : (code ts).length = n := hrd.len.1.symm
  have hnc : n ≤ c := hrd.len.2
  have hm := ht.lt
  have hkn := Blk.new w 60 #[.int .u32 kind]
  have hb1 := (Below.refl w.heap.size w).alloc (Nat.le_refl _) (.cells #[.int .u32 kind] 60)
  have hs1 : w.heap.size < (w.alloc (.cells #[.int .u32 kind] 60)).heap.size := by simp
  have hrd1 : Rd 0 (w.alloc (.cells #[.int .u32 kind] 60)) (.slice A n c) (code ts) := hrd.below hb1
  have ht1 := ht.below (hb1.mono hB)
  have HRM := Lib.hid (removeRaw_any (w.alloc (.cells #[.int .u32 kind] 60)) n c A ts 171 hrd1 hts hop hn0 hn)
  have HC := Lib.hid (Cells.of_rd hrd)
  have HK := Lib.hid hk
  have HT1 := Lib.hid ht1
  have HB1 := Lib.hid hb1
  have HKN := Lib.hid hkn
  have HA := Lib.hid hA
  have HANY := Lib.hid hany
  clear hk ht hrd hA hts hop hb1 hrd1 ht1 hkn hany
  go_enter Tryz.func30, Tryz.ntmps30
  go_wp2_with fail
  generalize hkk : w.heap.size = kb at *
  generalize w.alloc (.cells #[.int .u32 kind] 60) = w1 at *
  refine HRM.out.mono ?_
  rintro e w2 ⟨rfl, hb2⟩
  have b2 : Below kb w w2 := HB1.out.trans (hb2.mono (by omega))
  have ht2 := HT1.out.below (hb2.mono (by omega))
  have k2 := HKN.out.below hb2 HKN.out.lt
  have HS := Lib.hid (shallow_any B w2 m q t ht2 (by have := hb2.size; omega) hi ho)
  have HB2 := Lib.hid b2
  have HK2 := Lib.hid k2
  have hwk : w1.heap.size ≤ w2.heap.size := hb2.size
  clear b2 ht2 k2 hb2 HRM HB1 HKN HT1
  go_wp2_with fail
  refine HS.out.mono ?_
  rintro e w3 ⟨P, Q, R, S, CP, CR, CQ, CS, rfl, hPw, hQw, hRw, hSw, hP, hPs, hPp, hR, hRs, hRr, hQ, hQs, hQp, hS, hSs, hSr, hb3⟩
  have hr2 : RowsOf 36 CR t.ins.length (PIn w2.heap.size w2 t.ins) := hRr.mono (fun j cs _ hp => by
    obtain ⟨ti, ci, a1, a2, a3⟩ := hp
    exact ⟨ti, ci, a1, a2, a3.lift (by omega)⟩)
  have hs2 : RowsOf 2 CS t.outs.length (POut w2.heap.size w2 t.outs) := hSr.mono (fun j cs _ hp => by
    obtain ⟨ti, ci, a1, a2, a3⟩ := hp
    exact ⟨ti, ci, a1, a2, a3.lift (by omega)⟩)
  clear hRr hSr HS
  have HP := Lib.hid hP
  have HPp := Lib.hid hPp
  have HR := Lib.hid hR
  have HRr := Lib.hid hr2
  have HQ := Lib.hid hQ
  have HQp := Lib.hid hQp
  have HS := Lib.hid hS
  have HSr := Lib.hid hs2
  have HB3 := Lib.hid hb3
  have HK3 := Lib.hid (HK2.out.below hb3 HK2.out.lt)
  have hsz3 := hb3.size
  clear hP hPp hR hr2 hQ hQp hS hs2 hb3 HK2
  generalize hni : t.ins.length = ni at *
  generalize hno : t.outs.length = no at *
  go_wp2_with (refine wpList_alloc 79 rfl rfl #[.int .i32 0, .slice none 0 0, .slice none 0 0, .int .u32 0] (by kernel_rfl) ?_; refine Stop.mk ?_)
  refine Stop.go ?_
  refine wpList_store_new (w := w3) rfl (.tmp 10) (.tmp 33) 79 rfl rfl _ #[.int .i32 t.ver, .slice (some ⟨P, 0, none⟩) ni ni, .slice (some ⟨Q, 0, none⟩) no no, .int .u32 t.lock] rfl rfl info_mtx rfl (by kernel_rfl) ?_
  have hT := Blk.new w3 79 #[.int .i32 t.ver, .slice (some ⟨P, 0, none⟩) ni ni, .slice (some ⟨Q, 0, none⟩) no no, .int .u32 t.lock]
  have a1 := HP.out.alloc (.cells #[.int .i32 t.ver, .slice (some ⟨P, 0, none⟩) ni ni, .slice (some ⟨Q, 0, none⟩) no no, .int .u32 t.lock] 79)
  have a2 := HR.out.alloc (.cells #[.int .i32 t.ver, .slice (some ⟨P, 0, none⟩) ni ni, .slice (some ⟨Q, 0, none⟩) no no, .int .u32 t.lock] 79)
  have a3 := HQ.out.alloc (.cells #[.int .i32 t.ver, .slice (some ⟨P, 0, none⟩) ni ni, .slice (some ⟨Q, 0, none⟩) no no, .int .u32 t.lock] 79)
  have a4 := HS.out.alloc (.cells #[.int .i32 t.ver, .slice (some ⟨P, 0, none⟩) ni ni, .slice (some ⟨Q, 0, none⟩) no no, .int .u32 t.lock] 79)
  have a5 := HK3.out.alloc (.cells #[.int .i32 t.ver, .slice (some ⟨P, 0, none⟩) ni ni, .slice (some ⟨Q, 0, none⟩) no no, .int .u32 t.lock] 79)
  have a6 := HB3.out.alloc hsz3 (.cells #[.int .i32 t.ver, .slice (some ⟨P, 0, none⟩) ni ni, .slice (some ⟨Q, 0, none⟩) no no, .int .u32 t.lock] 79)
  generalize hTT : w3.heap.size = T at *
  generalize w3.alloc (.cells #[.int .i32 t.ver, .slice (some ⟨P, 0, none⟩) ni ni, .slice (some ⟨Q, 0, none⟩) no no, .int .u32 t.lock] 79) = w4 at *
  have hTP : T ≠ P := Blk.ne_ hT a1 (by decide)
  have hTR : T ≠ R := Blk.ne_ hT a2 (by decide)
  have hTQ : T ≠ Q := Blk.ne_ hT a3 (by decide)
  have hTS : T ≠ S := Blk.ne_ hT a4 (by decide)
  have hTk : T ≠ kb := Blk.ne_ hT a5 (by decide)
  have hPR : P ≠ R := Blk.ne_ a1 a2 (by decide)
  have hPS : P ≠ S := Blk.ne_ a1 a4 (by decide)
  have hQR : Q ≠ R := Blk.ne_ a3 a2 (by decide)
  have hQS : Q ≠ S := Blk.ne_ a3 a4 (by decide)
  have hRS : R ≠ S := Blk.ne_ a2 a4 (by decide)
  have hkR : kb ≠ R := Blk.ne_ a5 a2 (by decide)
  have hkS : kb ≠ S := Blk.ne_ a5 a4 (by decide)
  have y1 := hT.cell 1
  change _ = some (Value.slice (some ⟨P, 0, none⟩) ni ni) at y1
  have HT4 := Lib.hid hT
  have HP4 := Lib.hid a1
  have HR4 := Lib.hid a2
  have HQ4 := Lib.hid a3
  have HS4 := Lib.hid a4
  have HK4 := Lib.hid a5
  have HB4 := Lib.hid a6
  clear hT a1 a2 a3 a4 a5 a6 HP HR HQ HS HK3 HB3
  go_wp2_with fail
  go_loopg [11, 37] (ni + 1) (fun k s11 s37 wx => ∃ i CRx, k = ni - i + 1 ∧ i ≤ ni ∧ s37 = .int .i64 i ∧ Blk wx R 87 CRx ∧ CRx.size = ni * 36 ∧ RowsOf 36 CRx ni (PIn w2.heap.size w2 (part (fScr (code ts) idx) t.ins i)) ∧ Fm (M1 R) w4 wx)
  case atStart => exact ⟨0, CR, rfl, Nat.zero_le _, rfl, HR4.out, hRs, by rw [part_zero]; exact HRr.out, Fm.refl _ _⟩
  case round =>
    obtain ⟨i, CRx, hk, hin, rfl, hRx, hRs, hRr, hf⟩ := hrel
    by_cases h0 : i = ni
    · subst h0
      have hd : decide ((i : Int) < i) = false := by simp
      rw [part_all _ _ _ (by omega)] at hRr
      have t5 := HT4.out.fm hf (show ¬ M1 R T from hTR)
      have p5 := HP4.out.fm hf (show ¬ M1 R P from hPR)
      have q5 := HQ4.out.fm hf (show ¬ M1 R Q from hQR)
      have s5 := HS4.out.fm hf (show ¬ M1 R S from Ne.symm hRS)
      have k5 := HK4.out.fm hf (show ¬ M1 R kb from hkR)
      have b5 := Below.fm HB4.out hf (by have := HB4.out.size; omega) (fun j hj (hm : j = R) => by omega)
      have kc5 := k5.cell 0
      change _ = some (Value.int .u32 kind) at kc5
      have HT5 := Lib.hid t5
      have HP5 := Lib.hid p5
      have HQ5 := Lib.hid q5
      have HS5 := Lib.hid s5
      have HK5 := Lib.hid k5
      have HB5 := Lib.hid b5
      have HR5 := Lib.hid hRx
      have HRr5 := Lib.hid hRr
      have HKk := Lib.hid hk
      clear t5 p5 q5 s5 k5 b5 hf hRx hRr hk HT4 HP4 HQ4 HS4 HK4 HB4 HR4 y1
      have HSr5 := HSr
      have hKT : KT kc wr := HK.out.below (w' := wr) (by rw [hkk]; exact HB2.out.trans (HB5.out.mono (by omega)))
      have hlk := HK5.out.cell 0
      change _ = some (Value.int .u32 kind) at hlk
      cases any with
      | false =>
        have hany0 : bits .and .u32 kind 128 = 0 := HANY.out
        have htx : TxAt wr.heap.size wr T 0 (sigTx (code ts) 1 false idx t) := tx_at HT5.out HP5.out HPp.out HR5.out HRr5.out HQ5.out HQp.out HS5.out HSr5.out HB5.out (Nat.le_of_eq (Nat.zero_add _)) (by simp [hni]) (Nat.le_refl _) (by simp [hno]) (by rw [List.drop_zero, List.take_of_length_le (by simp [hni])]; simp [sigTx, sigIns, sigOuts, ← hno])
        have HD := Lib.hid (dsig_any kc wr T kb _ kind hKT htx hlk (by simp [sigTx, sigIns, hni] <;> omega) (by simp [sigTx, sigOuts, hno] <;> omega))
        clear htx hKT HT5 HP5 HR5 HRr5 HQ5 HS5 HSr5 HPp HQp
        go_wp2_with fail
        refine HD.out.mono ?_
        rintro e w6 ⟨rfl, b6⟩
        have hC : (bv ((feedSig kc (sigTx (code ts) 1 false idx t) kind).out2 kc)).toArray.size = 32 := by simp [bv_length, out2_length]
        have hone := bv_one ((feedSig kc (sigTx (code ts) 1 false idx t) kind).out2 kc)
        have hz3 := info_hash32
        rw [← hC] at hz3
        have HB6 := Lib.hid (HB5.out.trans (b6.mono HB5.out.size))
        clear b6
        generalize hCe : (bv ((feedSig kc (sigTx (code ts) 1 false idx t) kind).out2 kc)).toArray = C at *
        go_wp2_with (refine wpList_alloc 81 rfl rfl (Array.replicate 32 (.int .u8 0)) (by kernel_rfl) ?_; refine Stop.mk ?_)
        refine Stop.go ?_
        refine wpList_store_new (w := w6) rfl (.tmp 15) (.tmp 143) 81 rfl rfl _ C rfl rfl hz3 (by rw [hC]; rfl) hone ?_
        go_wp2
        go_ret
        have hb9 := HB2.out.trans (HB6.out.mono (by omega))
        refine ⟨_, rfl, by have := HB6.out.size; omega, ?_, ?_⟩
        · unfold sigHash
          rw [if_neg (by omega), hCe]
          exact Blk.new _ _ _
        · rw [hkk]
          exact hb9.alloc (by rw [← hkk]; exact hb9.size) _
      | true =>
        have hany1 : bits .and .u32 kind 128 = 128 := HANY.out
        have i1 : (idx : Int) + 1 ≤ (i : Int) := by omega
        have y1 := HT5.out.cell 1
        change _ = some (Value.slice (some ⟨P, 0, none⟩) i i) at y1
        have fz := HT5.out.frozen 1
        go_upto_region 40 with fail
        have t6 := HT5.out.set_ 1 (.slice (some ⟨P, idx, none⟩) 1 (i - idx))
        have p6 := HP5.out.far (p := ⟨T, 1, none⟩) (Ne.symm hTP) (.slice (some ⟨P, idx, none⟩) 1 (i - idx))
        have r6 := HR5.out.far (p := ⟨T, 1, none⟩) (Ne.symm hTR) (.slice (some ⟨P, idx, none⟩) 1 (i - idx))
        have q6 := HQ5.out.far (p := ⟨T, 1, none⟩) (Ne.symm hTQ) (.slice (some ⟨P, idx, none⟩) 1 (i - idx))
        have s6 := HS5.out.far (p := ⟨T, 1, none⟩) (Ne.symm hTS) (.slice (some ⟨P, idx, none⟩) 1 (i - idx))
        have k6 := HK5.out.far (p := ⟨T, 1, none⟩) (Ne.symm hTk) (.slice (some ⟨P, idx, none⟩) 1 (i - idx))
        have b6 := HB5.out.setCell (p := ⟨T, 1, none⟩) hsz3 (.slice (some ⟨P, idx, none⟩) 1 (i - idx))
        generalize wr.setCell ⟨T, 1, none⟩ (.slice (some ⟨P, idx, none⟩) 1 (i - idx)) = w7 at *
        have hlk7 := k6.cell 0
        change _ = some (Value.int .u32 kind) at hlk7
        have hKT7 : KT kc w7 := HK.out.below (w' := w7) (by rw [hkk]; exact HB2.out.trans (b6.mono (by omega)))
        have htx : TxAt w7.heap.size w7 T 0 (sigTx (code ts) 1 true idx t) := tx_at (i := idx) (mi := 1) t6 p6 HPp.out r6 HRr5.out q6 HQp.out s6 HSr5.out b6 (by omega) (by simp [hni]) (Nat.le_refl _) (by simp [hno]) (by simp [sigTx, sigIns, sigOuts, ← hno])
        have HD := Lib.hid (dsig_any kc w7 T kb _ kind hKT7 htx hlk7 (by simp [sigTx, sigIns, hni] <;> omega) (by simp [sigTx, sigOuts, hno] <;> omega))
        have HB7 := Lib.hid b6
        clear htx hKT hKT7 t6 p6 r6 q6 s6 k6 b6 HT5 HP5 HR5 HRr5 HQ5 HS5 HSr5 HPp HQp HB5 HK5 hlk
        go_wp2_with fail
        refine HD.out.mono ?_
        rintro e w6 ⟨rfl, b6⟩
        have hC : (bv ((feedSig kc (sigTx (code ts) 1 true idx t) kind).out2 kc)).toArray.size = 32 := by simp [bv_length, out2_length]
        have hone := bv_one ((feedSig kc (sigTx (code ts) 1 true idx t) kind).out2 kc)
        have hz3 := info_hash32
        rw [← hC] at hz3
        have HB6 := Lib.hid (HB7.out.trans (b6.mono HB7.out.size))
        clear b6
        generalize hCe : (bv ((feedSig kc (sigTx (code ts) 1 true idx t) kind).out2 kc)).toArray = C at *
        go_wp2_with (refine wpList_alloc 81 rfl rfl (Array.replicate 32 (.int .u8 0)) (by kernel_rfl) ?_; refine Stop.mk ?_)
        refine Stop.go ?_
        refine wpList_store_new (w := w6) rfl (.tmp 15) (.tmp 143) 81 rfl rfl _ C rfl rfl hz3 (by rw [hC]; rfl) hone ?_
        go_wp2
        go_ret
        have hb9 := HB2.out.trans (HB6.out.mono (by omega))
        refine ⟨_, rfl, by have := HB6.out.size; omega, ?_, ?_⟩
        · unfold sigHash
          rw [if_neg (by omega), hCe]
          exact Blk.new _ _ _
        · rw [hkk]
          exact hb9.alloc (by rw [← hkk]; exact hb9.size) _
    · have h1 : (i : Int) < (ni : Int) := by omega
      have h2 : (0 : Int) ≤ (i : Int) := by omega
      obtain ⟨ti, hti⟩ : ∃ v, t.ins[i]? = some v := ⟨t.ins[i]'(by omega), List.getElem?_eq_getElem _⟩
      have y1 := (HT4.out.fm hf (show ¬ M1 R T from hTR)).cell 1
      change _ = some (Value.slice (some ⟨P, 0, none⟩) ni ni) at y1
      have p1 := ((HP4.out.fm hf (show ¬ M1 R P from hPR)).cell i).trans (HPp.out i (by omega))
      have fz := hRx.frozen (i * 36 + 33)
      obtain ⟨u, hu⟩ : ∃ u, wr.cell? ⟨R, i * 36 + 33, none⟩ = some u := ⟨CRx[i * 36 + 33]'(by omega), (hRx.cell _).trans (Array.getElem?_eq_getElem _)⟩
      have HRx := Lib.hid hRx
      have HRr' := Lib.hid hRr
      have HF := Lib.hid hf
      have HTI := Lib.hid hti
      have HKk := Lib.hid hk
      clear hRx hRr hf hti hk
      by_cases hii : i = idx
      · subst hii
        go_wp2_with fail
        have hw1 : (i : Int) + 1 = ((i + 1 : Nat) : Int) := by omega
        go_roundg (ni - (i + 1) + 1)
        case measure => have := HKk.out; omega
        case rel =>
          refine ⟨i + 1, _, rfl, by omega, by rw [← hw1], HRx.out.set_ (i * 36 + 33) _, by simpa using hRs, ?_, HF.out.set1 _ _⟩
          rw [part_succ _ _ _ ti HTI.out, fScr, if_pos rfl, ← hlen]
          exact rows_scr HRr'.out (by omega) (part_get _ _ _ _ HTI.out) (by omega) (by omega) (by rw [hlen]; exact cells_below (by rw [← hkk] at HB2 HA ⊢; exact HB2.out) HC.out HA.out) (fun x y e => by have := HA.out x y e; omega)
      · have hne : ¬ ((i : Int) = (idx : Int)) := by omega
        go_wp2_with fail
        have hw1 : (i : Int) + 1 = ((i + 1 : Nat) : Int) := by omega
        go_roundg (ni - (i + 1) + 1)
        case measure => have := HKk.out; omega
        case rel =>
          refine ⟨i + 1, _, rfl, by omega, by rw [← hw1], HRx.out.set_ (i * 36 + 33) _, by simpa using hRs, ?_, HF.out.set1 _ _⟩
          rw [part_succ _ _ _ ti HTI.out, fScr, if_neg hii]
          exact rows_scr (scr := []) HRr'.out (by omega) (part_get _ _ _ _ HTI.out) (Nat.le_refl _) (by simp) ⟨rfl, fun h => absurd h (by simp)⟩ (fun x y e => by cases e)
end Go.Proofs.YtkgihpebghmnbaaGreatDoor
