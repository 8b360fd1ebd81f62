/- The transaction that a signature's hash speaks of, and the rows of its copy turned element by element. impl.Mark and the law's signature. What the checks of a signature and of a key read: they let ours. A key and a signature parsed; the machine's script from its last separator on. -/
import Derived.Test.YtkgihpebghmnbaaGreatDoorShc
import Derived.Test.YtkgihpebghmnbaaGreatDoorG22
import Derived.Test.YtkgihpebghmnbaaGreatDoorG07
import Derived.Test.YtkgihpebghmnbaaGreatDoorG25
import Derived.Test.YtkgihpebghmnbaaGreatDoorG06
import Derived.Laws.BytesString
namespace Go.Proofs.YtkgihpebghmnbaaGreatDoor
open Go.RowKit Go.Proofs

set_option maxRecDepth 100000

/-- A list whose first i elements have been turned. -/
def part {α : Type} (f : Nat → α → α) (L : List α) (i : Nat) : List α := L.mapIdx fun j x => if j < i then f j x else x
theorem part_zero {α : Type} (f : Nat → α → α) (L : List α) : part f L 0 = L := by
  apply List.ext_getElem?
  intro j
  simp [part]
theorem part_all {α : Type} (f : Nat → α → α) (L : List α) (n : Nat) (h : L.length ≤ n) : part f L n = L.mapIdx f := by
  apply List.ext_getElem?
  intro j
  simp only [part, List.getElem?_mapIdx]
  cases hj : L[j]? with
  | none => rfl
  | some x => simp [show j < n from Nat.lt_of_lt_of_le (List.getElem?_eq_some_iff.1 hj).1 h]
theorem part_get {α : Type} (f : Nat → α → α) (L : List α) (i : Nat) (x : α) (h : L[i]? = some x) : (part f L i)[i]? = some x := by
  simp [part, List.getElem?_mapIdx, h]
theorem part_succ {α : Type} (f : Nat → α → α) (L : List α) (i : Nat) (x : α) (h : L[i]? = some x) : part f L (i + 1) = (part f L i).set i (f i x) := by
  apply List.ext_getElem?
  intro j
  rw [List.getElem?_set]
  have hi := (List.getElem?_eq_some_iff.1 h).1
  by_cases hji : i = j
  · subst hji
    have hx := (List.getElem?_eq_some_iff.1 h).2
    simp [part, hi, hx]
  · rw [if_neg hji]
    simp only [part, List.getElem?_mapIdx]
    cases L[j]? with
    | none => rfl
    | some y =>
      simp only [Option.map_some]
      by_cases hl : j < i
      · rw [if_pos hl, if_pos (by omega)]
      · rw [if_neg hl, if_neg (by omega)]
theorem part_skip {α : Type} (f : Nat → α → α) (L : List α) (i : Nat) (x : α) (h : L[i]? = some x) (hf : f i x = x) : part f L (i + 1) = part f L i := by
  rw [part_succ f L i x h, hf]
  apply List.ext_getElem?
  intro j
  rw [List.getElem?_set]
  by_cases hji : i = j
  · subst hji
    have hl : i < (part f L i).length := by simp [part]; exact (List.getElem?_eq_some_iff.1 h).1
    rw [if_pos rfl, if_pos hl, part_get f L i x h]
  · rw [if_neg hji]
theorem part_length {α : Type} (f : Nat → α → α) (L : List α) (i : Nat) : (part f L i).length = L.length := by simp [part]

/-- The turns. -/
def fScr (scr : List UInt8) (idx : Nat) (j : Nat) (t : TI) : TI := { t with scr := if j = idx then scr else [] }
def fSeq (idx : Nat) (j : Nat) (t : TI) : TI := if j = idx then t else { t with seq := 0 }
def fOut (_ : Nat) (_ : TO) : TO := ⟨-1, []⟩

/-- What the hash of a signature speaks of: b is the lower part of the kind. -/
def sigIns (scr : List UInt8) (b : Nat) (any : Bool) (idx : Nat) (L : List TI) : List TI :=
  let L1 := L.mapIdx (fScr scr idx)
  let L2 := if b = 1 then L1 else L1.mapIdx (fSeq idx)
  if any then (L2.drop idx).take 1 else L2
def sigOuts (b idx : Nat) (L : List TO) : List TO :=
  if b = 1 then L else if b = 2 then [] else (part fOut L idx).take (idx + 1)
def sigTx (scr : List UInt8) (b : Nat) (any : Bool) (idx : Nat) (t : TX) : TX := ⟨t.ver, sigIns scr b any idx t.ins, sigOuts b idx t.outs, t.lock⟩

/-- The hash of a signature. -/
def sigHash (kc : Nat → Int) (scr : List UInt8) (kind : Int) (b : Nat) (any : Bool) (idx : Nat) (t : TX) : List UInt8 :=
  if b = 3 ∧ t.outs.length ≤ idx then 1 :: List.replicate 31 0 else (feedSig kc (sigTx scr b any idx t) kind).out2 kc

theorem sigHash_length (kc : Nat → Int) (scr : List UInt8) (kind : Int) (b : Nat) (any : Bool) (idx : Nat) (t : TX) : (sigHash kc scr kind b any idx t).length = 32 := by
  unfold sigHash
  split
  · simp
  · rfl
/-- A block of bytes reads. -/
theorem rd_blk {B : Nat} {w : World} {g n : Nat} {t : TypeId} {bs : List UInt8} (h : Blk w g t (bv bs).toArray) (hn : bs.length = n) (ht : t ∉ Sx) : Rd B w (.slice (some ⟨g, 0, none⟩) n n) bs := by
  subst hn
  refine ⟨_, _, rfl, Nat.le_refl _, fun _ => ⟨g, 0, _, t, _, rfl, h, .inr ht, fun j u hu => ?_⟩⟩
  rw [Nat.zero_add, List.getElem?_toArray, bv_get, hu]
  rfl
theorem Ci.set33 (c : Ci) (v : Value) : c.cells.set 33 v = Ci.cells { c with sv := v } := by
  simp only [Ci.cells]
  rw [List.set_append_right _ _ (by rw [bv_length, c.hl]; omega)]
  simp [bv_length, c.hl]
theorem Ci.set35 (c : Ci) (q : Int) : c.cells.set 35 (.int .u32 q) = Ci.cells { c with seq := q } := by
  simp only [Ci.cells]
  rw [List.set_append_right _ _ (by rw [bv_length, c.hl]; omega)]
  simp [bv_length, c.hl]

theorem PIn.set_other {B : Nat} {w : World} {L : List TI} {i j : Nat} {x : TI} {cs : List Value} (h : PIn B w L j cs) (hij : j ≠ i) : PIn B w (L.set i x) j cs := by
  obtain ⟨ti, ci, h1, h2, h3⟩ := h
  exact ⟨ti, ci, by rw [List.getElem?_set, if_neg (Ne.symm hij)]; exact h1, h2, h3⟩
theorem POut.set_other {B : Nat} {w : World} {L : List TO} {i j : Nat} {x : TO} {cs : List Value} (h : POut B w L j cs) (hij : j ≠ i) : POut B w (L.set i x) j cs := by
  obtain ⟨ti, ci, h1, h2, h3⟩ := h
  exact ⟨ti, ci, by rw [List.getElem?_set, if_neg (Ne.symm hij)]; exact h1, h2, h3⟩

theorem rows_scr {B : Nat} {w : World} {C : Array Value} {n i : Nat} {L : List TI} {x : TI} {A : Option Addr} {c : Nat} {scr : List UInt8} (h : RowsOf 36 C n (PIn B w L)) (hi : i * 36 + 33 < C.size) (hx : L[i]? = some x)
    (hc : scr.length ≤ c) (hl : scr.length ≤ 1000000) (hC : Cells w A scr.length (bv scr)) (hA : ∀ x y, A = some ⟨x, y, none⟩ → x < B) :
    RowsOf 36 (C.setIfInBounds (i * 36 + 33) (.slice A scr.length c)) n (PIn B w (L.set i { x with scr := scr })) := by
  refine (h.set i 33 (by omega) _ hi).mono fun j cs hj hp => ?_
  by_cases hji : j = i
  · subst hji
    rw [if_pos rfl] at hp
    obtain ⟨ds, k1, ⟨ti, ci, k2, rfl, k3⟩, rfl⟩ := hp
    rw [hx] at k2
    injection k2 with k2
    subst k2
    refine ⟨{ x with scr := scr }, { ci with sv := .slice A scr.length c }, by rw [List.getElem?_set, if_pos rfl, if_pos (List.getElem?_eq_some_iff.1 hx).1], Ci.set33 _ _, k3.1, k3.2.1, k3.2.2.1, hl, A, c, rfl, hc, hC, hA⟩
  · rw [if_neg hji] at hp
    exact hp.set_other hji
theorem rows_seq {B : Nat} {w : World} {C : Array Value} {n i : Nat} {L : List TI} {x : TI} {q : Int} (h : RowsOf 36 C n (PIn B w L)) (hi : i * 36 + 35 < C.size) (hx : L[i]? = some x) :
    RowsOf 36 (C.setIfInBounds (i * 36 + 35) (.int .u32 q)) n (PIn B w (L.set i { x with seq := q })) := by
  refine (h.set i 35 (by omega) _ hi).mono fun j cs hj hp => ?_
  by_cases hji : j = i
  · subst hji
    rw [if_pos rfl] at hp
    obtain ⟨ds, k1, ⟨ti, ci, k2, rfl, k3⟩, rfl⟩ := hp
    rw [hx] at k2
    injection k2 with k2
    subst k2
    refine ⟨{ x with seq := q }, { ci with seq := q }, by rw [List.getElem?_set, if_pos rfl, if_pos (List.getElem?_eq_some_iff.1 hx).1], Ci.set35 _ _, k3.1, k3.2.1, rfl, k3.2.2.2⟩
  · rw [if_neg hji] at hp
    exact hp.set_other hji
theorem rows_out {B : Nat} {w : World} {C : Array Value} {n i : Nat} {L : List TO} {x : TO} (h : RowsOf 2 C n (POut B w L)) (hi : i * 2 + 1 < C.size) (hx : L[i]? = some x) :
    RowsOf 2 ((C.setIfInBounds (i * 2) (.int .i64 (-1))).setIfInBounds (i * 2 + 1) (.slice none 0 0)) n (POut B w (L.set i ⟨-1, []⟩)) := by
  have h1 := (h.set i 0 (by omega) (.int .i64 (-1)) (by omega)).set i 1 (by omega) (.slice none 0 0) (by simpa using hi)
  rw [Nat.add_zero] at h1
  refine h1.mono fun j cs hj hp => ?_
  by_cases hji : j = i
  · subst hji
    rw [if_pos rfl] at hp
    obtain ⟨ds, k1, hp, rfl⟩ := hp
    rw [if_pos rfl] at hp
    obtain ⟨es, k4, ⟨ti, ci, k2, rfl, k3⟩, rfl⟩ := hp
    rw [hx] at k2
    injection k2 with k2
    subst k2
    refine ⟨⟨-1, []⟩, ⟨-1, .slice none 0 0⟩, by rw [List.getElem?_set, if_pos rfl, if_pos (List.getElem?_eq_some_iff.1 hx).1], rfl, rfl, by simp, none, 0, rfl, Nat.le_refl _, ⟨rfl, fun h => absurd h (by simp)⟩, fun x y e => by cases e⟩
  · rw [if_neg hji] at hp
    rw [if_neg hji] at hp
    exact hp.set_other hji

/-- The row of pointers. -/
theorem ptr_cells {w : World} {P R n sz : Nat} {t : TypeId} {CP : Array Value} (hP : Blk w P t CP) (hp : ∀ j, j < n → CP[j]? = some (.pointer (some ⟨R, j * sz, none⟩))) (i m : Nat) (him : i + m ≤ n) :
    Cells w (some ⟨P, i, none⟩) m ((List.range m).map fun j => .pointer (some ⟨R, (i + j) * sz, none⟩)) := by
  refine ⟨by simp, fun _ => ⟨P, i, rfl, fun j u hu => ?_⟩⟩
  rw [List.getElem?_map] at hu
  cases hj : (List.range m)[j]? with
  | none => rw [hj] at hu; cases hu
  | some k =>
    rw [hj] at hu
    obtain ⟨h1, h2⟩ := List.getElem?_eq_some_iff.1 hj
    simp at h1 h2 hu
    subst h2; subst hu
    rw [hP.cell]
    exact hp _ (by omega)
theorem ptr_get {R i m sz j : Nat} {v : Value} (hv : ((List.range m).map fun j => Value.pointer (some ⟨R, (i + j) * sz, none⟩))[j]? = some v) : j < m ∧ v = .pointer (some ⟨R, (i + j) * sz, none⟩) := by
  rw [List.getElem?_map] at hv
  cases hj : (List.range m)[j]? with
  | none => rw [hj] at hv; cases hv
  | some k =>
    rw [hj] at hv
    obtain ⟨h1, h2⟩ := List.getElem?_eq_some_iff.1 hj
    simp at h1 h2 hv
    subst h2; subst hv
    exact ⟨h1, rfl⟩
theorem ins_at {B B' : Nat} {w w' : World} {R n : Nat} {t : TypeId} {C : Array Value} {L : List TI} (hR : Blk w' R t C) (hRB : R < B') (hr : RowsOf 36 C n (PIn B w L)) (hb : Below B w w') (hB : B ≤ B') (i m : Nat) (him : i + m ≤ n) (hn : n = L.length) :
    InsAt B' w' ((List.range m).map fun j => .pointer (some ⟨R, (i + j) * 36, none⟩)) ((L.drop i).take m) := by
  refine ⟨by simp; omega, fun j v ti hv hti => ?_⟩
  obtain ⟨hj, rfl⟩ := ptr_get hv
  rw [List.getElem?_take, if_pos hj, List.getElem?_drop] at hti
  obtain ⟨cs, -, ⟨ti', ci, k1, rfl, k2⟩, k3⟩ := hr.range hR (j := i + j) (by omega)
  rw [hti] at k1
  injection k1 with k1
  subst k1
  exact ((k2.below hb).lift hB).at k3 hRB
theorem outs_at {B B' : Nat} {w w' : World} {S n : Nat} {t : TypeId} {C : Array Value} {L : List TO} (hR : Blk w' S t C) (hRB : S < B') (hr : RowsOf 2 C n (POut B w L)) (hb : Below B w w') (hB : B ≤ B') (m : Nat) (him : m ≤ n) (hn : n = L.length) :
    OutsAt B' w' ((List.range m).map fun j => .pointer (some ⟨S, (0 + j) * 2, none⟩)) (L.take m) := by
  refine ⟨by simp; omega, fun j v ti hv hti => ?_⟩
  obtain ⟨hj, rfl⟩ := ptr_get hv
  rw [List.getElem?_take, if_pos hj] at hti
  rw [Nat.zero_add]
  obtain ⟨cs, -, ⟨ti', ci, k1, rfl, k2⟩, k3⟩ := hr.range hR (j := j) (by omega)
  rw [hti] at k1
  injection k1 with k1
  subst k1
  exact ((k2.below hb).lift hB).at k3 hRB

theorem tx_at {w2 wz : World} {T P Q R S ni no i mi mo ci co : Nat} {ver lock : Int} {CP CR CQ CS : Array Value} {Li : List TI} {Lo : List TO} {t' : TX}
    (hT : Blk wz T 79 #[.int .i32 ver, .slice (some ⟨P, i, none⟩) mi ci, .slice (some ⟨Q, 0, none⟩) mo co, .int .u32 lock])
    (hP : Blk wz P 80 CP) (hPp : ∀ j, j < ni → CP[j]? = some (.pointer (some ⟨R, j * 36, none⟩))) (hR : Blk wz R 87 CR) (hRr : RowsOf 36 CR ni (PIn w2.heap.size w2 Li))
    (hQ : Blk wz Q 88 CQ) (hQp : ∀ j, j < no → CQ[j]? = some (.pointer (some ⟨S, j * 2, none⟩))) (hS : Blk wz S 90 CS) (hSr : RowsOf 2 CS no (POut w2.heap.size w2 Lo))
    (hb : Below w2.heap.size w2 wz) (him : i + mi ≤ ni) (hni : ni = Li.length) (hmo : mo ≤ no) (hno : no = Lo.length) (h : t' = ⟨ver, (Li.drop i).take mi, Lo.take mo, lock⟩) : TxAt wz.heap.size wz T 0 t' := by
  subst h
  have h1 : ((Li.drop i).take mi).length = mi := by simp; omega
  have h2 : (Lo.take mo).length = mo := by simp; omega
  refine ⟨hT.lt, some ⟨P, i, none⟩, ci, some ⟨Q, 0, none⟩, co, ((List.range mi).map fun j => .pointer (some ⟨R, (i + j) * 36, none⟩)), ((List.range mo).map fun j => .pointer (some ⟨S, (0 + j) * 2, none⟩)), ?_, ?_, ?_, ins_at hR hR.lt hRr hb hb.size i mi him hni, ?_, ?_, outs_at hS hS.lt hSr hb hb.size mo hmo hno⟩
  · simp only [h1, h2]; exact Tx4.of hT
  · simp only [h1]; exact ptr_cells hP hPp i mi him
  · intro x y e; injection e with e; injection e with e1 e2; have := hP.lt; omega
  · simp only [h2]; exact ptr_cells hQ hQp 0 mo (by omega)
  · intro x y e; injection e with e; injection e with e1 e2; have := hQ.lt; omega

theorem feedSig_ok (kc : Nat → Int) (t : TX) (kind : Int) : ShOk (feedSig kc t kind) := (feedTx_ok kc _ t ShOk.zero).feed kc _

theorem dsig_any (kc : Nat → Int) (wz : World) (T k : Nat) (t : TX) (kind : Int) (hK : KT kc wz) (ht : TxAt wz.heap.size wz T 0 t) (hk : wz.cell? ⟨k, 0, none⟩ = some (.int .u32 kind)) (hi : t.ins.length ≤ 1000000) (ho : t.outs.length ≤ 1000000) :
    Calls Tryz.prog 45 #[.func (.func 46) #[] #[.pointer (some ⟨T, 0, none⟩), .pointer (some ⟨k, 0, none⟩)]] wz fun e w' =>
      e = .returned (.agg (bv ((feedSig kc t kind).out2 kc)).toArray) ∧ Below wz.heap.size wz w' := by
  have hkl := hK.lt
  have hkb := World.block_lt_of_cell? wz _ hk
  refine dhash_any kc wz ⟨T, 0, none⟩ ⟨k, 0, none⟩ (feedSig kc t kind) hK (feedSig_ok kc t kind) (fun w2 d hb hd hdg => ?_)
  exact sigClosure_any kc wz.heap.size w2 d T 0 k t kind hdg (hK.below hb) (by omega) (ht.below hb) (Nat.le_of_lt hd) (at_below hb hk hkb) hkb hi ho

theorem out2_length (kc : Nat → Int) (s : Sh) : (s.out2 kc).length = 32 := rfl
end Go.Proofs.YtkgihpebghmnbaaGreatDoor

namespace Go.Proofs.YtkgihpebghmnbaaGreatDoor
open Go.RowKit Go.Proofs

set_option maxRecDepth 100000

/-- The mark of a hash and a key. -/
def markL (kc : Nat → Int) (h key : List UInt8) : List UInt8 := (sha kc (h ++ key)).take 4

theorem markI_any (kc : Nat → Int) (w : World) (A1 A2 : Option Addr) (n1 n2 c1 c2 : Nat) (bs1 bs2 : List UInt8) (hk : KT kc w) (h1 : Cells w A1 n1 (bv bs1)) (h2 : Cells w A2 n2 (bv bs2)) (hn : n1 + n2 ≤ 1000000) :
    Calls Tryz.prog 12 #[.slice A1 n1 c1, .slice A2 n2 c2] w fun e w' => ∃ A c, e = .returned (.slice A 4 c) ∧ w'.ownsRow w.heap.size 5 1 (.slice A 4 c) 4 (bv (markL kc bs1 bs2)) ∧ Below w.heap.size w w' := by
  have HM := Lib.hid (mark_any kc w A1 A2 n1 n2 c1 c2 bs1 bs2 hk h1 h2 hn)
  clear h1 h2 hk
  go_enter Tryz.func12, Tryz.ntmps12
  go_wp2_with fail
  refine HM.out.mono ?_
  rintro e w1 ⟨g, rfl, hg, hblk, hb1⟩
  have hrd : Rd 0 w1 (.slice (some ⟨g, 0, none⟩) 4 32) (markL kc bs1 bs2) := by
    have hl : (markL kc bs1 bs2).length = 4 := rfl
    refine ⟨some ⟨g, 0, none⟩, 32, by rw [hl], by rw [hl]; omega, fun _ => ⟨g, 0, _, _, _, rfl, hblk, .inr (by decide), fun j u hu => ?_⟩⟩
    rw [Nat.zero_add, List.getElem?_toArray, bv_get]
    have hu' : (sha kc (bs1 ++ bs2))[j]? = some u := by
      unfold markL at hu
      rw [List.getElem?_take] at hu
      split at hu
      · exact hu
      · cases hu
    rw [hu']
    rfl
  have HC := Lib.hid (copied_any w1 0 4 32 _ _ hrd (by omega))
  have HB := Lib.hid hb1
  clear hblk hrd hb1
  go_wp2_with fail
  refine HC.out.mono ?_
  rintro e w2 ⟨A', c', rfl, ho, hb2⟩
  have HO := Lib.hid (own_lower ho HB.out.size)
  have HB2 := Lib.hid (HB.out.trans (hb2.mono HB.out.size))
  clear ho hb2
  go_wp2
  go_ret
  exact ⟨_, _, rfl, HO.out, HB2.out⟩

/-- The front of a signature. -/
def sigF : List UInt8 := [48, 10, 2, 1, 1, 2, 5, 1]

set_option maxHeartbeats 1000000 in
theorem signature_any (kc : Nat → Int) (w : World) (A1 A2 : Option Addr) (n1 n2 c1 c2 : Nat) (bs1 bs2 : List UInt8) (k : UInt8) (hk : KT kc w) (h1 : Cells w A1 n1 (bv bs1)) (h2 : Cells w A2 n2 (bv bs2)) (hn : n1 + n2 ≤ 1000000) :
    Calls Tryz.prog 9 #[.slice A1 n1 c1, .slice A2 n2 c2, .int .u8 k.toNat] w fun e w' => ∃ A c, e = .returned (.slice A 13 c) ∧ w'.ownsRow w.heap.size 5 1 (.slice A 13 c) 13 (bv (sigF ++ markL kc bs1 bs2 ++ [k])) ∧ Below w.heap.size w w' := by
  obtain ⟨i0, hi, hz0, hz1, hz2⟩ := info_parts info_u8
  have hb0 : Below w.heap.size w (w.alloc (.cells #[.int .u8 48, .int .u8 10, .int .u8 2, .int .u8 1, .int .u8 1, .int .u8 2, .int .u8 5, .int .u8 1] 5)) := (Below.refl _ _).alloc (Nat.le_refl _) _
  have ho0 : (w.alloc (.cells #[.int .u8 48, .int .u8 10, .int .u8 2, .int .u8 1, .int .u8 1, .int .u8 2, .int .u8 5, .int .u8 1] 5)).ownsRow w.heap.size 5 1 (.slice (some ⟨w.heap.size, 0, none⟩) 8 8) 8 (bv sigF) :=
    ⟨rfl, .inr ⟨w.heap.size, 8, #[.int .u8 48, .int .u8 10, .int .u8 2, .int .u8 1, .int .u8 1, .int .u8 2, .int .u8 5, .int .u8 1], rfl, Nat.le_refl _, heap_alloc_new w _, by omega, by simp [maxLen], rfl, rfl⟩⟩
  have HM := Lib.hid (markI_any kc _ A1 A2 n1 n2 c1 c2 bs1 bs2 (hk.below hb0) (h1.below hb0) (h2.below hb0) hn)
  have HB0 := Lib.hid hb0
  have HO0 := Lib.hid ho0
  have hml : (markL kc bs1 bs2).length = 4 := rfl
  clear h1 h2 hk hb0 ho0
  generalize markL kc bs1 bs2 = ml at *
  go_enter Tryz.func9, Tryz.ntmps9
  go_wp2_with fail
  refine HM.out.mono ?_
  rintro e w1 ⟨Am, cm, rfl, hom, hb1⟩
  have HO1 := Lib.hid (own_below HO0.out hb1)
  have HB1 := Lib.hid (HB0.out.trans (hb1.mono HB0.out.size))
  have HRM := Lib.hid (Cells.of_own hom)
  have hfar : ∀ k, k = w.heap.size → ∀ y, Am ≠ some ⟨k, y, none⟩ := fun k hk y e => by
    have := (hom.lt k (by rw [e]; rfl)).1
    simp at this
    omega
  have hlt : ∀ x y, Am = some ⟨x, y, none⟩ → x < w1.heap.size := own_at hom
  clear hom hb1 HM HO0 HB0
  go_wp2_with fail
  go_loopg [7, 9] (4 + 1) (fun r s7 s9 wx => ∃ (i : Nat) (A : Option Addr) (c : Nat), r = 4 - i + 1 ∧ i ≤ 4 ∧ s7 = .slice A (8 + i) c ∧ s9 = .int .i64 i ∧ wx.ownsRow w.heap.size 5 1 (.slice A (8 + i) c) (8 + i) (bv (sigF ++ ml.take i)) ∧ Below w.heap.size w wx ∧ Cells wx Am 4 (bv ml) ∧ (∀ k, (Value.slice A (8 + i) c).ownBlock = some k → ∀ y, Am ≠ some ⟨k, y, none⟩) ∧ ∀ x y, Am = some ⟨x, y, none⟩ → x < wx.heap.size)
  case atStart => exact ⟨0, _, _, rfl, by omega, rfl, rfl, by simpa using HO1.out, HB1.out, HRM.out, fun k hk => hfar k (by simpa [Value.ownBlock] using hk.symm), hlt⟩
  case round =>
    obtain ⟨i, A, c, hr, hi4, rfl, rfl, hown, hbel, hrm, hfa, hla⟩ := hrel
    have HO := Lib.hid hown
    have HB := Lib.hid hbel
    have HR := Lib.hid hr
    have HM := Lib.hid hrm
    clear hown hbel hr
    by_cases h0 : i = 4
    · subst h0
      have hba : Below wr.heap.size wr (wr.alloc (.cells #[.int .u8 k.toNat] 5)) := (Below.refl _ _).alloc (Nat.le_refl _) _
      have HBA := Lib.hid hba
      clear hba hrm hfa hla
      go_wp2_with (at_builtin; refine Stop.mk ?_)
      refine Stop.go ?_
      refine wpList_append_cells _ rfl (.tmp 32) (.tmp 34) 30 rfl w.heap.size 5 i0 _ 1 Tryz.underlying30 hi hz0 hz1 hz2 rfl (.slice A (8 + 4) c) (8 + 4) (bv (sigF ++ ml.take 4)) rfl (own_below HO.out HBA.out) (some ⟨wr.heap.size, 0, none⟩) 1 1 [.int .u8 k.toNat] rfl (Cells.one wr _ _) (by intro u hu; simp at hu; subst hu; rfl) (by omega) (by omega) (by have := HB.out.size; simp; omega) ?_
      intro v' w2 hown' hgrow hat
      obtain ⟨A', c', rfl⟩ := own_form hown'
      have HB2 := Lib.hid ((HB.out.alloc HB.out.size _).grown hgrow (by have := HB.out.size; simp; omega) (fun k hk => ((own_below HO.out HBA.out).lt k hk).1))
      have HO2 := Lib.hid hown'
      clear hown' hgrow hat
      go_wp2
      go_ret
      refine ⟨A', c', rfl, ?_, HB2.out⟩
      have h := HO2.out
      rw [List.take_of_length_le (by omega)] at h
      rw [bv_append _ [k]]
      exact h
    · have h1 : (i : Int) < 4 := by omega
      have h2 : (0 : Int) ≤ (i : Int) := by omega
      obtain ⟨b, o, rfl, hcell⟩ := hrm.2 (by omega)
      obtain ⟨u, hu⟩ : ∃ u, ml[i]? = some u := ⟨ml[i]'(by omega), List.getElem?_eq_getElem _⟩
      have hcell' : wr.cell? ⟨b, o + i, none⟩ = some (.int .u8 u.toNat) := by
        exact hcell i _ (by rw [bv_get, hu]; rfl)
      have HU := Lib.hid hu
      have hba : Below wr.heap.size wr (wr.alloc (.cells #[.int .u8 u.toNat] 5)) := (Below.refl _ _).alloc (Nat.le_refl _) _
      have HBA := Lib.hid hba
      clear hba hrm hcell hu
      go_wp2_with (at_builtin; refine Stop.mk ?_)
      refine Stop.go ?_
      refine wpList_append_cells _ rfl (.tmp 22) (.tmp 27) 30 rfl w.heap.size 5 i0 _ 1 Tryz.underlying30 hi hz0 hz1 hz2 rfl (.slice A (8 + i) c) (8 + i) (bv (sigF ++ ml.take i)) rfl (own_below HO.out HBA.out) (some ⟨wr.heap.size, 0, none⟩) 1 1 [.int .u8 u.toNat] rfl (Cells.one wr _ _) (by intro u hu; simp at hu; subst hu; rfl) (by omega) (by omega) (by have := HB.out.size; simp; omega) ?_
      intro v' w2 hown' hgrow hat
      obtain ⟨A', c', rfl⟩ := own_form hown'
      have HB2 := Lib.hid ((HB.out.alloc HB.out.size _).grown hgrow (by have := HB.out.size; simp; omega) (fun k hk => ((own_below HO.out HBA.out).lt k hk).1))
      have HO2 := Lib.hid hown'
      have hla0 := hla b o rfl
      have hm1 := HM.out.below HBA.out
      have hm2 : Cells w2 (some ⟨b, o, none⟩) 4 (bv ml) := by
        refine hm1.fm (M := fun k => (Value.slice A (8 + i) c).ownBlock = some k) (Fm.grown (Fm.refl _ _) hgrow (fun k _ hk => hk)) ?_
        intro x y e hk
        injection e with e
        injection e with e1 e2
        exact hfa x hk y (by rw [← e1, e2])
      have HM2 := Lib.hid hm2
      have hsz : wr.heap.size < w2.heap.size := Nat.lt_of_lt_of_le (by simp) hgrow.size
      have hla2 : ∀ x y, (some ⟨b, o, none⟩ : Option Addr) = some ⟨x, y, none⟩ → x < w2.heap.size := fun x y e => by
        injection e with e
        injection e with e1 e2
        omega
      have hfa2 : ∀ k, (Value.slice A' (8 + (i + 1)) c').ownBlock = some k → ∀ y, (some ⟨b, o, none⟩ : Option Addr) ≠ some ⟨k, y, none⟩ := fun k hk y e => by
        injection e with e
        injection e with e1 e2
        rcases hat with hat | hat
        · exact hfa k (by rw [← hat]; exact hk) o (by rw [← e1])
        · have e3 : some k = some _ := hk.symm.trans hat
          injection e3 with e3
          simp at e3
          omega
      have HFA := Lib.hid hfa2
      have HLA := Lib.hid hla2
      clear hown' hgrow hat hm1 hm2 hsz hla2 hfa2 hfa hla
      go_wp2_with fail
      have hw2 : (i : Int) + 1 = ((i + 1 : Nat) : Int) := by omega
      go_roundg (4 - (i + 1) + 1)
      case measure => have := HR.out; omega
      case rel =>
        refine ⟨i + 1, A', c', rfl, by omega, rfl, by rw [← hw2], ?_, HB2.out, HM2.out, HFA.out, HLA.out⟩
        rw [List.take_add_one, HU.out, ← List.append_assoc, bv_append]
        exact HO2.out
end Go.Proofs.YtkgihpebghmnbaaGreatDoor

namespace Go.Proofs.YtkgihpebghmnbaaGreatDoor
open Go.RowKit Go.Proofs

set_option maxRecDepth 100000

/-- A flag is set, or not. -/
def Flag (fl m : Int) (x : Bool) : Prop := bits .and .u32 fl m = if x then m else 0

/-- A signature of the strict form: four bytes of its own, and its kind. -/
def sigB (m0 m1 m2 m3 k : UInt8) : List UInt8 := [48, 10, 2, 1, 1, 2, 5, 1, m0, m1, m2, m3, k]

theorem checkKind_any (w : World) (g : Nat) (fl kind b : Int) (st : Bool) (h0 : w.cell? ⟨g, 0, none⟩ = some (.int .u32 fl)) (hf : Flag fl 2048 st) (hb : bits .and .u32 kind 4294967167 = b) (h1 : 1 ≤ b) (h3 : b ≤ 3) :
    Calls Tryz.prog 216 #[.pointer (some ⟨g, 0, none⟩), .int .u32 kind] w fun e w' => e = .returned .nilIface ∧ w = w' := by
  have n1 : ¬ (b < 1) := by omega
  have n3 : ¬ (3 < b) := by omega
  have HF := Lib.hid (hasFlag_any w g fl 2048 _ hf h0)
  clear hf
  go_enter Tryz.func216, Tryz.ntmps216
  go_wp2_with fail
  refine HF.out.mono ?_
  rintro e w1 ⟨rfl, rfl⟩
  cases st
  · go_wp2
    go_ret
    exact ⟨rfl, rfl⟩
  · go_wp2
    go_ret
    exact ⟨rfl, rfl⟩

/-- The first cell of a key. -/
theorem compressed_any (w : World) (b o c : Nat) (k0 : Nat) (hc : w.cell? ⟨b, o, none⟩ = some (.int .u8 k0)) (hk : k0 = 2 ∨ k0 = 3) :
    Calls Tryz.prog 231 #[.slice (some ⟨b, o, none⟩) 33 c] w fun e w' => e = .returned (.bool true) ∧ w = w' := by
  rcases hk with rfl | rfl
  · go_enter Tryz.func231, Tryz.ntmps231
    go_wp2
    go_ret
    exact ⟨rfl, rfl⟩
  · go_enter Tryz.func231, Tryz.ntmps231
    go_wp2
    go_ret
    exact ⟨rfl, rfl⟩

theorem checkKey_any (w : World) (g b o c : Nat) (fl : Int) (st : Bool) (k0 : Nat) (h0 : w.cell? ⟨g, 0, none⟩ = some (.int .u32 fl)) (hf : Flag fl 2048 st) (hw : Flag fl 32768 false) (hc : w.cell? ⟨b, o, none⟩ = some (.int .u8 k0)) (hk : k0 = 2 ∨ k0 = 3) :
    Calls Tryz.prog 210 #[.pointer (some ⟨g, 0, none⟩), .slice (some ⟨b, o, none⟩) 33 c] w fun e w' => e = .returned .nilIface ∧ w = w' := by
  have HF := Lib.hid (hasFlag_any w g fl 2048 _ hf h0)
  have HW := Lib.hid (hasFlag_any w g fl 32768 _ hw h0)
  clear hf hw
  go_enter Tryz.func210, Tryz.ntmps210
  go_wp2_with fail
  refine HW.out.mono ?_
  rintro e w1 ⟨rfl, rfl⟩
  go_wp2_with fail
  refine HF.out.mono ?_
  rintro e w1 ⟨rfl, rfl⟩
  cases st
  · go_wp2
    go_ret
    exact ⟨rfl, rfl⟩
  · rcases hk with rfl | rfl
    · go_wp2
      go_ret
      exact ⟨rfl, rfl⟩
    · go_wp2
      go_ret
      exact ⟨rfl, rfl⟩

set_option maxHeartbeats 2000000 in
theorem checkSig_enc (w : World) (g b o c : Nat) (fl : Int) (st de : Bool) (m0 m1 m2 m3 : UInt8) (h0 : w.cell? ⟨g, 0, none⟩ = some (.int .u32 fl)) (hf : Flag fl 2048 st) (hd : Flag fl 64 de) (hl : Flag fl 128 false) (k : UInt8) (hr : Cells w (some ⟨b, o, none⟩) 13 (bv (sigB m0 m1 m2 m3 k))) :
    Calls Tryz.prog 217 #[.pointer (some ⟨g, 0, none⟩), .slice (some ⟨b, o, none⟩) 12 c] w fun e w' => e = .returned .nilIface ∧ w = w' := by
  have HF := Lib.hid (hasFlag_any w g fl 2048 _ hf h0)
  have HD := Lib.hid (hasFlag_any w g fl 64 _ hd h0)
  have HL := Lib.hid (hasFlag_any w g fl 128 _ hl h0)
  obtain ⟨b', o', e, hc⟩ := hr.2 (by omega)
  injection e with e
  injection e with e1 e2
  subst e1; subst e2
  have c0 : w.cell? ⟨b, o, none⟩ = some (.int .u8 48) := hc 0 (.int .u8 48) rfl
  have c1 : w.cell? ⟨b, o + 1, none⟩ = some (.int .u8 10) := hc 1 (.int .u8 10) rfl
  have c2 : w.cell? ⟨b, o + 2, none⟩ = some (.int .u8 2) := hc 2 (.int .u8 2) rfl
  have c3 : w.cell? ⟨b, o + 3, none⟩ = some (.int .u8 1) := hc 3 (.int .u8 1) rfl
  have c4 : w.cell? ⟨b, o + 4, none⟩ = some (.int .u8 1) := hc 4 (.int .u8 1) rfl
  have c5 : w.cell? ⟨b, o + 5, none⟩ = some (.int .u8 2) := hc 5 (.int .u8 2) rfl
  have c6 : w.cell? ⟨b, o + 6, none⟩ = some (.int .u8 5) := hc 6 (.int .u8 5) rfl
  have c7 : w.cell? ⟨b, o + 7, none⟩ = some (.int .u8 1) := hc 7 (.int .u8 1) rfl
  clear hf hd hl hr hc
  go_enter Tryz.func217, Tryz.ntmps217
  go_wp2_with fail
  refine HD.out.mono ?_
  rintro e w1 ⟨rfl, rfl⟩
  cases de
  · go_wp2_with fail
    refine HL.out.mono ?_
    rintro e w1 ⟨rfl, rfl⟩
    go_wp2_with fail
    refine HF.out.mono ?_
    rintro e w1 ⟨rfl, rfl⟩
    cases st
    · go_wp2
      go_ret
      exact ⟨rfl, rfl⟩
    · go_wp2
      go_ret
      exact ⟨rfl, rfl⟩
  · go_wp2
    go_ret
    exact ⟨rfl, rfl⟩
end Go.Proofs.YtkgihpebghmnbaaGreatDoor

namespace Go.Proofs.YtkgihpebghmnbaaGreatDoor
open Go.RowKit Go.Proofs

set_option maxRecDepth 100000

/-- A struct of one slice of bytes, the call's own. -/
def Own1 (w : World) (p : Nat) (t : TypeId) (bs : List UInt8) : Prop := ∃ A c, Blk w p t #[.slice A bs.length c] ∧ w.ownsRow 0 5 1 (.slice A bs.length c) bs.length (bv bs)

theorem Own1.below {w w' : World} {p : Nat} {t : TypeId} {bs : List UInt8} (h : Own1 w p t bs) (hb : Below w.heap.size w w') : Own1 w' p t bs := by
  obtain ⟨A, c, h1, h2⟩ := h
  exact ⟨A, c, h1.below hb h1.lt, own_below h2 hb⟩

set_option maxHeartbeats 2000000 in
theorem parseKey_any (w : World) (B b o c : Nat) (key : List UInt8) (k0 : Nat) (hr : Rd B w (.slice (some ⟨b, o, none⟩) 33 c) key) (hc : w.cell? ⟨b, o, none⟩ = some (.int .u8 k0)) (hk : k0 = 2 ∨ k0 = 3) :
    Calls Tryz.prog 220 #[.slice (some ⟨b, o, none⟩) 33 c] w fun e w' => ∃ p, e = .returned (.tuple #[.pointer (some ⟨p, 0, none⟩), .nilIface]) ∧ w.heap.size ≤ p ∧ Own1 w' p 289 key ∧ Below w.heap.size w w' := by
  obtain ⟨i0, hi, hz0, hz1, hz2⟩ := info_parts info_u8
  have hl : key.length = 33 := hr.len.1.symm
  have HQ := Lib.hid (compressed_any w b o c k0 hc hk)
  have HC := Lib.hid (Cells.of_rd hr)
  have hb1 := (Below.refl w.heap.size w).alloc (Nat.le_refl _) (.cells #[] 5)
  have hown := World.ownsRow_made (base := w.heap.size) (e := 5) (size := 1) w #[] 0 (Nat.le_refl _) (by simp [maxLen]) rfl
  have HB := Lib.hid hb1
  have HO := Lib.hid hown
  clear hb1 hown hr hc hk
  go_enter Tryz.func220, Tryz.ntmps220
  go_wp2_with fail
  refine HQ.out.mono ?_
  rintro e w1 ⟨rfl, rfl⟩
  go_wp2_with (refine wpList_buildSlice 30 0 _ rfl rfl (.slice (some ⟨w.heap.size, 0, none⟩) 0 0) (w' := w.alloc (.cells #[] 5)) (by kernel_rfl) ?_; refine Stop.mk ?_)
  refine Stop.go ?_
  generalize w.alloc (.cells #[] 5) = w1 at *
  go_wp2_with (refine wpList_append_cells _ rfl (.tmp 29) (.tmp 30) 30 rfl w.heap.size 5 i0 _ 1 Tryz.underlying30 hi hz0 hz1 hz2 rfl _ 0 [] rfl HO.out (some ⟨b, o, none⟩) 33 c (bv key) rfl (HC.out.below HB.out) (bv_ones _) (by omega) (by omega) HB.out.size ?_; refine Stop.mk ?_)
  refine Stop.go ?_
  intro v2 w2 ho2 hg2 hl2
  have hb2 : Below w.heap.size w w2 := HB.out.grown hg2 HB.out.size (fun k hk => (World.ownsRow.lt HO.out k hk).1)
  obtain ⟨A2, c2, rfl⟩ := own_form ho2
  have ho2 : w2.ownsRow w.heap.size 5 1 (.slice A2 33 c2) 33 (bv key) := ho2
  have hp := Blk.new w2 289 #[.slice A2 33 c2]
  have ho3 := own_below (own_lower ho2 (Nat.zero_le _)) ((Below.refl w2.heap.size w2).alloc (Nat.le_refl _) (.cells #[.slice A2 33 c2] 289))
  have hb3 := hb2.alloc hb2.size (.cells #[.slice A2 33 c2] 289)
  have hpw := hb2.size
  have HP := Lib.hid hp
  have HO3 := Lib.hid ho3
  have HB3 := Lib.hid hb3
  clear hp ho3 hb3 hb2 ho2 hg2 hl2 HB HO HC HQ
  go_wp2
  go_ret2
  exact ⟨_, rfl, hpw, ⟨A2, c2, by rw [hl]; exact HP.out, by rw [hl]; exact HO3.out⟩, HB3.out⟩

set_option maxHeartbeats 2000000 in
theorem parseSig_any (w : World) (B n c : Nat) (A : Option Addr) (sig : List UInt8) (hr : Rd B w (.slice A n c) sig) (hn : 4 ≤ n) (hn2 : n ≤ 100000) :
    Calls Tryz.prog 219 #[.slice A n c] w fun e w' => ∃ p, e = .returned (.tuple #[.pointer (some ⟨p, 0, none⟩), .nilIface]) ∧ w.heap.size ≤ p ∧ Own1 w' p 287 sig ∧ Below w.heap.size w w' := by
  obtain ⟨i0, hi, hz0, hz1, hz2⟩ := info_parts info_u8
  have hl : sig.length = n := hr.len.1.symm
  have hn4 : ¬ ((n : Int) < 4) := by omega
  have HC := Lib.hid (Cells.of_rd hr)
  have hb1 := (Below.refl w.heap.size w).alloc (Nat.le_refl _) (.cells #[] 5)
  have hown := World.ownsRow_made (base := w.heap.size) (e := 5) (size := 1) w #[] 0 (Nat.le_refl _) (by simp [maxLen]) rfl
  have HB := Lib.hid hb1
  have HO := Lib.hid hown
  clear hb1 hown hr
  go_enter Tryz.func219, Tryz.ntmps219
  go_wp2_with (refine wpList_buildSlice 30 0 _ rfl rfl (.slice (some ⟨w.heap.size, 0, none⟩) 0 0) (w' := w.alloc (.cells #[] 5)) (by kernel_rfl) ?_; refine Stop.mk ?_)
  refine Stop.go ?_
  generalize w.alloc (.cells #[] 5) = w1 at *
  go_wp2_with (refine wpList_append_cells _ rfl (.tmp 8) (.tmp 9) 30 rfl w.heap.size 5 i0 _ 1 Tryz.underlying30 hi hz0 hz1 hz2 rfl _ 0 [] rfl HO.out A n c (bv sig) rfl (HC.out.below HB.out) (bv_ones _) (by omega) (by omega) HB.out.size ?_; refine Stop.mk ?_)
  refine Stop.go ?_
  intro v2 w2 ho2 hg2 hl2
  have hb2 : Below w.heap.size w w2 := HB.out.grown hg2 HB.out.size (fun k hk => (World.ownsRow.lt HO.out k hk).1)
  obtain ⟨A2, c2, rfl⟩ := own_form ho2
  have ho2 : w2.ownsRow w.heap.size 5 1 (.slice A2 n c2) n (bv sig) := ho2
  have hp := Blk.new w2 287 #[.slice A2 n c2]
  have ho3 := own_below (own_lower ho2 (Nat.zero_le _)) ((Below.refl w2.heap.size w2).alloc (Nat.le_refl _) (.cells #[.slice A2 n c2] 287))
  have hb3 := hb2.alloc hb2.size (.cells #[.slice A2 n c2] 287)
  have hpw := hb2.size
  have HP := Lib.hid hp
  have HO3 := Lib.hid ho3
  have HB3 := Lib.hid hb3
  clear hp ho3 hb3 hb2 ho2 hg2 hl2 HB HO HC
  go_wp2
  go_ret2
  exact ⟨_, rfl, hpw, ⟨A2, c2, by rw [hl]; exact HP.out, by rw [hl]; exact HO3.out⟩, HB3.out⟩

theorem parseDER_any (w : World) (B n c : Nat) (A : Option Addr) (sig : List UInt8) (hr : Rd B w (.slice A n c) sig) (hn : 4 ≤ n) (hn2 : n ≤ 100000) :
    Calls Tryz.prog 218 #[.slice A n c] w fun e w' => ∃ p, e = .returned (.tuple #[.pointer (some ⟨p, 0, none⟩), .nilIface]) ∧ w.heap.size ≤ p ∧ Own1 w' p 287 sig ∧ Below w.heap.size w w' := by
  have H := Lib.hid (parseSig_any w B n c A sig hr hn hn2)
  clear hr
  go_enter Tryz.func218, Tryz.ntmps218
  go_wp2_with fail
  refine H.out.mono ?_
  rintro e w1 ⟨p, rfl, h1, h2, h3⟩
  have H2 := Lib.hid h2
  have H3 := Lib.hid h3
  clear h2 h3 H
  go_wp2
  go_ret2
  exact ⟨p, rfl, h1, H2.out, H3.out⟩

set_option maxHeartbeats 2000000 in
theorem subScript_any (w : World) (g sb si n c : Nat) (A : Option Addr) (hsi : si < 2) (h11 : w.cell? ⟨g, 11, none⟩ = some (.slice (some ⟨sb, 0, none⟩) 2 2)) (h12 : w.cell? ⟨g, 12, none⟩ = some (.int .i64 si)) (h14 : w.cell? ⟨g, 14, none⟩ = some (.int .i64 0))
    (hs : w.cell? ⟨sb, si, none⟩ = some (.slice A n c)) (_hnc : n ≤ c) :
    Calls Tryz.prog 214 #[.pointer (some ⟨g, 0, none⟩)] w fun e w' => e = .returned (.slice A n c) ∧ ∃ q, w' = w.drewN q := by
  have i1 : (si : Int) < 2 := by omega
  have i2 : (0 : Int) ≤ (si : Int) := by omega
  go_enter Tryz.func214, Tryz.ntmps214
  go_wp2_with fail
  go_quiet (fail)
  go_wp2
  go_ret
  exact ⟨rfl, _, rfl⟩
end Go.Proofs.YtkgihpebghmnbaaGreatDoor
