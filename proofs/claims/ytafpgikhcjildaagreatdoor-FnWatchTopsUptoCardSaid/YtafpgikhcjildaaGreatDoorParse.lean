/- Tokens of a script, one behind the other; a script that is whole. -/
import Derived.Test.YtafpgikhcjildaaGreatDoorRead
import Derived.Test.YtafpgikhcjildaaGreatDoorTokb
import Derived.Deep.LoopGhost
namespace Go.Proofs.YtafpgikhcjildaaGreatDoor
open Go.RowKit Go.Proofs

set_option maxRecDepth 100000

/-- The tokens that these walks know. -/
def TokS (t : Tok) : Prop := (t.data = [] ∧ (t.op = 0 ∨ 78 < t.op) ∧ t.op ≤ 255 ∧ ∃ nm, OpIs t.op nm 1) ∨ (1 ≤ t.op ∧ t.op ≤ 75 ∧ t.data.length = t.op) ∨
  (t.op = 76 ∧ 1 ≤ t.data.length ∧ t.data.length ≤ 255) ∨ (t.op = 77 ∧ 1 ≤ t.data.length ∧ t.data.length ≤ 65535)

/-- A tokenizer's cells. -/
structure TokC (cs : Array Value) (o : Nat) (sl : Value) (off : Nat) (pos : Int) : Prop where
  c0 : cs[o]? = some sl
  c1 : ∃ v, cs[o + 1]? = some v
  c2 : cs[o + 2]? = some (.int .i32 off)
  c3 : cs[o + 3]? = some (.int .i32 pos)
  c4 : ∃ v, cs[o + 4]? = some v
  c5 : ∃ v, cs[o + 5]? = some v
  c6 : cs[o + 6]? = some .nilIface

theorem TokC.next {cs : Array Value} {o off : Nat} {sl : Value} {pos : Int} (h : TokC cs o sl off pos) (off' : Nat) (p : Int) (op d : Value) : TokC (tokSet cs o p off' op d) o sl off' p := by
  obtain ⟨c0, ⟨v1, c1⟩, c2, c3, ⟨v4, c4⟩, ⟨v5, c5⟩, c6⟩ := h
  unfold tokSet
  exact { c0 := get_set (get_set (get_set (get_set c0 (by omega)) (by omega)) (by omega)) (by omega)
          c1 := ⟨v1, get_set (get_set (get_set (get_set c1 (by omega)) (by omega)) (by omega)) (by omega)⟩
          c2 := get_set (get_set (get_here (get_set c2 (by omega))) (by omega)) (by omega)
          c3 := get_set (get_set (get_set (get_here c3) (by omega)) (by omega)) (by omega)
          c4 := ⟨_, get_set (get_here (get_set (get_set c4 (by omega)) (by omega))) (by omega)⟩
          c5 := ⟨_, get_here (get_set (get_set (get_set c5 (by omega)) (by omega)) (by omega))⟩
          c6 := get_set (get_set (get_set (get_set c6 (by omega)) (by omega)) (by omega)) (by omega) }

theorem drop_enc {bs rest : List UInt8} {off : Nat} {t : Tok} (h : bs.drop off = t.enc ++ rest) (j : Nat) (u : UInt8) (hj : t.enc[j]? = some u) : bs[off + j]? = some u := by
  rw [← List.getElem?_drop, h, List.getElem?_append_left (List.getElem?_eq_some_iff.1 hj).1]
  exact hj

/-- Next, at a token, what it hands over told ahead. -/
theorem next_tok2 (w : World) (b o tt n c off : Nat) (A : Option Addr) (cs : Array Value) (pos : Int) (t : Tok) (bs rest : List UInt8)
    (hB : Blk w b tt cs) (hC : TokC cs o (.slice A n c) off pos) (hrd : Rd 0 w (.slice A n c) bs) (hne : ∀ ds t' fr, w.heap[b]? = some (.cells ds t' fr) → t' ∈ Sx)
    (hcode : bs.drop off = t.enc ++ rest) (ht : TokS t) (hn : n ≤ 100000) (hp0 : -1 ≤ pos) (hp : pos ≤ 200000) :
    ∃ nm dA dc, Rd 0 w (.slice dA t.data.length dc) t.data ∧ ∀ m, Calls Tryz.prog 34 #[.pointer (some ⟨b, o, none⟩)] (w.drewN m) fun e w' => e = .returned (.bool true) ∧
      (∃ ln : Int, Blk w' w.heap.size 137 #[.int .u8 t.op, .string nm, .int .i64 ln]) ∧
      Blk w' b tt (tokSet cs o (pos + 1) (off + t.enc.length : Nat) (.pointer (some ⟨w.heap.size, 0, none⟩)) (.slice dA t.data.length dc)) ∧ Fm (M1 b) w w' := by
  obtain ⟨hl, hnc⟩ := hrd.len
  have hep := t.enc_pos
  have hlen : off + t.enc.length ≤ n := by
    have := congrArg List.length hcode
    simp at this
    omega
  obtain ⟨sb, so, rfl, -⟩ := hrd.cell (j := 0) (by omega)
  have hsb : sb ≠ b := by
    rintro rfl
    obtain ⟨A', c', e, -, h⟩ := hrd
    injection e with e1 e2 e3
    obtain ⟨b', o', ds, t', fr, e', hh, hs, -⟩ := h (by omega)
    rw [← e1] at e'
    injection e' with e'
    injection e' with e2 e3
    subst e2
    rcases hs with hs | hs
    · omega
    · exact hs (hne _ _ _ hh)
  obtain ⟨b0, o0, e0, hbyte⟩ := hrd.cell (j := off) (by omega)
  injection e0 with e0
  injection e0 with e1 e2
  subst e1; subst e2
  have hne2 : (⟨sb, so, none⟩ : Addr) = ⟨sb, so, none⟩ := rfl
  rcases ht with ⟨hd, hop, hop2, nm, hnm⟩ | ⟨h1, h2, h3⟩ | ⟨h1, h2, h3⟩ | ⟨h1, h2, h3⟩
  · have henc : t.enc = [UInt8.ofNat t.op] := by
      unfold Tok.enc
      rcases hop with h | h
      · rw [if_pos h, h]; rfl
      · rw [if_neg (by omega), if_neg (by omega), if_neg (by omega), if_neg (by omega)]
    have hu : bs.getD off 0 = UInt8.ofNat t.op := by
      have := drop_enc hcode 0 (UInt8.ofNat t.op) (by rw [henc]; rfl)
      simpa [List.getD_eq_getElem?_getD] using congrArg (·.getD 0) this
    rw [hu] at hbyte
    have hv : (UInt8.ofNat t.op).toNat = t.op := by simp; omega
    rw [hv] at hbyte
    obtain ⟨v4, c4⟩ := hC.c4
    obtain ⟨v5, c5⟩ := hC.c5
    refine ⟨nm, none, 0, by rw [hd]; exact Rd.nil _ _ _ _, fun m => ?_⟩
    refine (next_one (w.drewN m) b o tt n c cs off pos v4 v5 t.op nm sb so hnm (by omega) (by omega) hp0 (by omega) hB hC.c6 hC.c2 hC.c0 hC.c3 c4 c5 hsb hbyte).mono ?_
    rintro e w' ⟨rfl, k1, k2, k3⟩
    rw [henc, hd]
    exact ⟨rfl, ⟨_, k1⟩, k2, ((Fm.refl _ w).drewN m).trans k3⟩
  · have henc : t.enc = UInt8.ofNat t.op :: t.data := by
      unfold Tok.enc
      rw [if_neg (by omega), if_pos (by omega)]
    have hle : t.enc.length = t.op + 1 := by rw [henc]; simp [h3]
    have hu : bs.getD off 0 = UInt8.ofNat t.op := by
      have := drop_enc hcode 0 (UInt8.ofNat t.op) (by rw [henc]; rfl)
      simpa [List.getD_eq_getElem?_getD] using congrArg (·.getD 0) this
    rw [hu] at hbyte
    have hv : (UInt8.ofNat t.op).toNat = t.op := by simp; omega
    rw [hv] at hbyte
    obtain ⟨nm, hnm⟩ := op_data t.op h1 h2
    obtain ⟨v4, c4⟩ := hC.c4
    obtain ⟨v5, c5⟩ := hC.c5
    have hpart := hrd.part (off + 1) t.op (c - off - 1) (by omega) (by omega)
    have hdd : (bs.drop (off + 1)).take t.op = t.data := by
      have : bs.drop (off + 1) = t.data ++ rest := by
        rw [← List.drop_drop, hcode, henc]; rfl
      rw [this, ← h3]; simp
    rw [hdd, ← Nat.add_assoc] at hpart
    refine ⟨nm, some ⟨sb, so + off + 1, none⟩, c - off - 1, by rw [h3]; exact hpart, fun m => ?_⟩
    refine (next_data (w.drewN m) b o tt n c cs off pos v4 v5 t.op nm sb so t.op h1 h2 hnm (by omega) hnc (by omega) hp0 (by omega) hB hC.c6 hC.c2 hC.c0 hC.c3 c4 c5 hsb hbyte).mono ?_
    rintro e w' ⟨rfl, k1, k2, k3⟩
    rw [hle, h3]
    exact ⟨rfl, ⟨_, k1⟩, k2, ((Fm.refl _ w).drewN m).trans k3⟩
  · have henc : t.enc = 76 :: UInt8.ofNat t.data.length :: t.data := by
      unfold Tok.enc
      rw [if_neg (by omega), if_neg (by omega), if_pos h1]
    have hle : t.enc.length = t.data.length + 2 := by rw [henc]; simp
    have hu : bs.getD off 0 = 76 := by
      have := drop_enc hcode 0 76 (by rw [henc]; rfl)
      simpa [List.getD_eq_getElem?_getD] using congrArg (·.getD 0) this
    have hu1 : bs.getD (off + 1) 0 = UInt8.ofNat t.data.length := by
      have := drop_enc hcode 1 (UInt8.ofNat t.data.length) (by rw [henc]; rfl)
      simpa [List.getD_eq_getElem?_getD] using congrArg (·.getD 0) this
    obtain ⟨b1, o1, e1, hbyte1⟩ := hrd.cell (j := off + 1) (by omega)
    injection e1 with e1
    injection e1 with e1 e2
    subst e1; subst e2
    rw [hu] at hbyte
    rw [hu1, show (UInt8.ofNat t.data.length).toNat = t.data.length by simp; omega] at hbyte1
    obtain ⟨v4, c4⟩ := hC.c4
    obtain ⟨v5, c5⟩ := hC.c5
    have hpart := hrd.part (off + 1 + 1) t.data.length (c - (off + 1) - 1) (by omega) (by omega)
    have hdd : (bs.drop (off + 1 + 1)).take t.data.length = t.data := by
      have : bs.drop (off + 1 + 1) = t.data ++ rest := by
        rw [← List.drop_drop, ← List.drop_drop, hcode, henc]; rfl
      rw [this]; simp
    rw [hdd, ← Nat.add_assoc] at hpart
    obtain ⟨nm, hnm⟩ : ∃ nm, OpIs 76 nm (-1) := ⟨_, op76⟩
    refine ⟨nm, some ⟨sb, so + (off + 1) + 1, none⟩, c - (off + 1) - 1, hpart, fun m => ?_⟩
    refine (next_pd1 (w.drewN m) b o tt n c cs off pos v4 v5 nm sb so t.data.length h2 h3 hnm (by omega) hnc (by omega) hp0 (by omega) hB hC.c6 hC.c2 hC.c0 hC.c3 c4 c5 hsb hbyte hbyte1).mono ?_
    rintro e w' ⟨rfl, k1, k2, k3⟩
    rw [hle, h1]
    exact ⟨rfl, ⟨_, k1⟩, k2, ((Fm.refl _ w).drewN m).trans k3⟩
  · have henc : t.enc = 77 :: UInt8.ofNat (t.data.length % 256) :: UInt8.ofNat (t.data.length / 256) :: t.data := by
      unfold Tok.enc
      rw [if_neg (by omega), if_neg (by omega), if_neg (by omega), if_pos h1]
    have hle : t.enc.length = t.data.length + 3 := by rw [henc]; simp
    have hu : bs.getD off 0 = 77 := by
      have := drop_enc hcode 0 77 (by rw [henc]; rfl)
      simpa [List.getD_eq_getElem?_getD] using congrArg (·.getD 0) this
    have hu1 : bs.getD (off + 1) 0 = UInt8.ofNat (t.data.length % 256) := by
      have := drop_enc hcode 1 (UInt8.ofNat (t.data.length % 256)) (by rw [henc]; rfl)
      simpa [List.getD_eq_getElem?_getD] using congrArg (·.getD 0) this
    have hu2 : bs.getD (off + 1 + 1) 0 = UInt8.ofNat (t.data.length / 256) := by
      have := drop_enc hcode 2 (UInt8.ofNat (t.data.length / 256)) (by rw [henc]; rfl)
      simpa [List.getD_eq_getElem?_getD] using congrArg (·.getD 0) this
    obtain ⟨b1, o1, e1, hbyte1⟩ := hrd.cell (j := off + 1) (by omega)
    injection e1 with e1
    injection e1 with e1 e2
    subst e1; subst e2
    obtain ⟨b2, o2, e2, hbyte2⟩ := hrd.cell (j := off + 1 + 1) (by omega)
    injection e2 with e2
    injection e2 with e1 e2
    subst e1; subst e2
    rw [hu] at hbyte
    rw [hu1, show (UInt8.ofNat (t.data.length % 256)).toNat = t.data.length % 256 by simp] at hbyte1
    rw [hu2, show (UInt8.ofNat (t.data.length / 256)).toNat = t.data.length / 256 by simp; omega, ← Nat.add_assoc] at hbyte2
    obtain ⟨v4, c4⟩ := hC.c4
    obtain ⟨v5, c5⟩ := hC.c5
    have hpart := hrd.part (off + 1 + 2) t.data.length (c - (off + 1) - 2) (by omega) (by omega)
    have hdd : (bs.drop (off + 1 + 2)).take t.data.length = t.data := by
      have : bs.drop (off + 1 + 2) = t.data ++ rest := by
        rw [← List.drop_drop, ← List.drop_drop, hcode, henc]; rfl
      rw [this]; simp
    rw [hdd, ← Nat.add_assoc] at hpart
    obtain ⟨nm, hnm⟩ : ∃ nm, OpIs 77 nm (-2) := ⟨_, op77⟩
    refine ⟨nm, some ⟨sb, so + (off + 1) + 2, none⟩, c - (off + 1) - 2, hpart, fun m => ?_⟩
    refine (next_pd2 (w.drewN m) b o tt n c cs off pos v4 v5 nm sb so t.data.length (t.data.length % 256) (t.data.length / 256) h2 h3 (by omega) (by omega) (by omega) hnm (by omega) hnc (by omega) hp0 (by omega) hB hC.c6 hC.c2 hC.c0 hC.c3 c4 c5 hsb hbyte hbyte1 hbyte2).mono ?_
    rintro e w' ⟨rfl, k1, k2, k3⟩
    rw [hle, h1]
    exact ⟨rfl, ⟨_, k1⟩, k2, ((Fm.refl _ w).drewN m).trans k3⟩

/-- Next, at a token. -/
theorem next_tok (w : World) (b o tt n c off : Nat) (A : Option Addr) (cs : Array Value) (pos : Int) (t : Tok) (bs rest : List UInt8)
    (hB : Blk w b tt cs) (hC : TokC cs o (.slice A n c) off pos) (hrd : Rd 0 w (.slice A n c) bs) (hne : ∀ ds t' fr, w.heap[b]? = some (.cells ds t' fr) → t' ∈ Sx)
    (hcode : bs.drop off = t.enc ++ rest) (ht : TokS t) (hn : n ≤ 100000) (hp0 : -1 ≤ pos) (hp : pos ≤ 200000) :
    Calls Tryz.prog 34 #[.pointer (some ⟨b, o, none⟩)] w fun e w' => e = .returned (.bool true) ∧
      ∃ nm, (∃ ln : Int, Blk w' w.heap.size 137 #[.int .u8 t.op, .string nm, .int .i64 ln]) ∧
      ∃ dA dc, Rd 0 w (.slice dA t.data.length dc) t.data ∧ Blk w' b tt (tokSet cs o (pos + 1) (off + t.enc.length : Nat) (.pointer (some ⟨w.heap.size, 0, none⟩)) (.slice dA t.data.length dc)) ∧ Fm (M1 b) w w' := by
  obtain ⟨nm, dA, dc, hr, h⟩ := next_tok2 w b o tt n c off A cs pos t bs rest hB hC hrd hne hcode ht hn hp0 hp
  refine (h 0).mono ?_
  rintro e w' ⟨rfl, ⟨ln, k1⟩, k2, k3⟩
  exact ⟨rfl, nm, ⟨ln, k1⟩, dA, dc, hr, k2, k3⟩

/-- Next, at the end. -/
theorem next_end (w : World) (b o n c : Nat) (A : Option Addr) (cs : Array Value) (tt : Nat) (pos : Int) (hB : Blk w b tt cs) (hC : TokC cs o (.slice A n c) n pos) (hn : n ≤ 100000) :
    Calls Tryz.prog 34 #[.pointer (some ⟨b, o, none⟩)] w fun e w' => e = .returned (.bool false) ∧ ∃ k, w' = w.drewN k := by
  have H := Lib.hid (done_any w b o n c A n (by omega) (by omega) (by omega) ((hB.cell _).trans hC.c6) ((hB.cell _).trans hC.c2) ((hB.cell _).trans hC.c0))
  clear hB hC
  have hd : decide ((n : Int) ≤ (n : Int)) = true := by simp
  go_enter Tryz.func34, Tryz.ntmps34
  go_wp2_with fail
  refine H.out.mono ?_
  rintro e w1 ⟨rfl, k1, rfl⟩
  rw [hd]
  go_wp2
  go_ret
  exact ⟨rfl, k1, rfl⟩

/-- A new tokenizer. -/
theorem mkTok_any (w : World) (A : Option Addr) (n c : Nat) :
    Calls Tryz.prog 32 #[.int .u16 0, .slice A n c] w fun e w' =>
      e = .returned (.agg #[.slice A n c, .int .u16 0, .int .i32 0, .int .i32 (-1), .pointer none, .slice none 0 0, .nilIface]) ∧ Below w.heap.size w w' := by
  go_enter Tryz.func32, Tryz.ntmps32
  go_wp2
  exact bodyPost_ret (v := .agg #[.slice A n c, .int .u16 0, .int .i32 0, .int .i32 (-1), .pointer none, .slice none 0 0, .nilIface]) (by simp [results, Tryz.results32, go_sem]) rfl ⟨rfl, (Below.refl _ _).alloc (Nat.le_refl _) _⟩

theorem Below.fm {B : Nat} {w w1 w2 : World} {M : Nat → Prop} (h : Below B w w1) (k : Fm M w1 w2) (hB : B ≤ w1.heap.size) (hM : ∀ j, j < B → ¬ M j) : Below B w w2 :=
  ⟨k.os.trans h.os, k.tape.trans h.tape, k.output.trans h.output, Nat.le_trans h.size k.size, fun j hj => (k.block j (by omega) (hM j hj)).trans (h.block j hj)⟩

/-- A script that is whole. -/
theorem parses (w : World) (n c : Nat) (A : Option Addr) (ts : List Tok) (hrd : Rd 0 w (.slice A n c) (code ts)) (hts : ∀ t ∈ ts, TokS t) (hn : n ≤ 100000) :
    Calls Tryz.prog 30 #[.int .u16 0, .slice A n c] w fun e w' => e = .returned .nilIface ∧ Below w.heap.size w w' := by
  have HR := Lib.hid hrd
  have HT := Lib.hid hts
  have HL := Lib.hid hrd.len
  clear hrd hts
  go_enter Tryz.func30, Tryz.ntmps30
  go_wp2_with fail
  refine (mkTok_any w A n c).mono ?_
  rintro e w1 ⟨rfl, hb1⟩
  have HB1 := Lib.hid hb1
  clear hb1
  go_wp2_with fail
  have hblk := Blk.new w1 78 #[.slice A n c, .int .u16 0, .int .i32 0, .int .i32 (-1), .pointer none, .slice none 0 0, .nilIface]
  have hbel : Below w.heap.size w (w1.alloc (.cells #[.slice A n c, .int .u16 0, .int .i32 0, .int .i32 (-1), .pointer none, .slice none 0 0, .nilIface] 78)) := HB1.out.alloc HB1.out.size _
  have hT : w.heap.size ≤ w1.heap.size := HB1.out.size
  generalize w1.heap.size = T at *
  have HI : Hid (∃ done rest cs, ts = done ++ rest ∧ ts.length = rest.length ∧ Blk (w1.alloc (.cells #[.slice A n c, .int .u16 0, .int .i32 0, .int .i32 (-1), .pointer none, .slice none 0 0, .nilIface] 78)) T 78 cs ∧
      TokC cs 0 (.slice A n c) (code done).length ((done.length : Int) - 1) ∧ Below w.heap.size w (w1.alloc (.cells #[.slice A n c, .int .u16 0, .int .i32 0, .int .i32 (-1), .pointer none, .slice none 0 0, .nilIface] 78))) :=
    ⟨[], ts, _, rfl, rfl, hblk, ⟨rfl, ⟨_, rfl⟩, rfl, rfl, ⟨_, rfl⟩, ⟨_, rfl⟩, rfl⟩, hbel⟩
  clear hblk hbel
  generalize w1.alloc (.cells #[.slice A n c, .int .u16 0, .int .i32 0, .int .i32 (-1), .pointer none, .slice none 0 0, .nilIface] 78) = w2 at *
  go_loopg [9] (ts.length + 1) (fun k s9 wx => ∃ done rest cs, ts = done ++ rest ∧ k = rest.length + 1 ∧ Blk wx T 78 cs ∧
      TokC cs 0 (.slice A n c) (code done).length ((done.length : Int) - 1) ∧ Below w.heap.size w wx)
  case atStart => 
    obtain ⟨done, rest, cs, h1, h2, h3⟩ := HI.out
    exact ⟨done, rest, cs, h1, by rw [h2], h3⟩
  case round =>
    obtain ⟨done, rest, cs, hts, rfl, hblk, hC, hbel⟩ := hrel
    have hrd' : Rd 0 wr (.slice A n c) (code ts) := HR.out.below hbel
    have hcl : (code ts).length = n := HL.out.1.symm
    have hdl : done.length ≤ n := by
      have h0 : ∀ ds : List Tok, ds.length ≤ (code ds).length := by
        intro ds
        induction ds with
        | nil => simp
        | cons d ds ih => have := d.enc_pos; simp only [code, List.length_cons, List.length_append]; omega
      have h1 := h0 done
      have h2 := congrArg List.length (code_append done rest)
      rw [← hts] at h2
      simp at h2
      omega
    cases rest with
    | nil =>
      have hoff : (code done).length = n := by rw [← hcl, hts]; simp
      rw [hoff] at hC
      have HN := Lib.hid (next_end wr T 0 n c A cs _ _ hblk hC hn)
      have h6 := (hblk.cell 6).trans hC.c6
      have HX := Lib.hid hbel
      clear hblk hC hbel hrd' HI
      go_wp2_with fail
      refine HN.out.mono ?_
      rintro e w3 ⟨rfl, k3, rfl⟩
      go_wp2_with fail
      refine (err_any (wr.drewN k3) T 0 _ h6 (.inl rfl)).mono ?_
      rintro e w4 ⟨rfl, rfl⟩
      have HX' := HX.out
      go_wp2
      go_ret
      exact ⟨rfl, ⟨HX'.os, HX'.tape, HX'.output, HX'.size, HX'.block⟩⟩
    | cons t rest =>
      have hdrop : (code ts).drop (code done).length = t.enc ++ code rest := by
        rw [hts, code_append]; simp [code]
      have HN := Lib.hid (next_tok wr T 0 _ n c (code done).length A cs _ t (code ts) (code rest) hblk hC hrd' (fun ds t' fr hh => by
        unfold Blk at hblk; rw [hblk] at hh; injection hh with hh; injection hh with _ e; subst e; simp [Sx]) hdrop (HT.out t (by rw [hts]; simp)) hn (by omega) (by omega))
      have HX := Lib.hid hbel
      have HC := Lib.hid hC
      clear hblk hC hbel hrd' HI
      go_wp2_with fail
      refine HN.out.mono ?_
      rintro e w3 ⟨rfl, nm, -, dA, dc, -, hblk3, hf3⟩
      have hblk3 := Lib.hid hblk3
      have hf3 := Lib.hid (Below.fm HX.out hf3 HX.out.size (fun j hj hm => by unfold M1 at hm; omega))
      go_wp2_with fail
      go_roundg (rest.length + 1)
      case measure => simp
      case rel =>
        refine ⟨done ++ [t], rest, _, by rw [hts]; simp, rfl, hblk3.out, ?_, hf3.out⟩
        have hc := HC.out.next ((code done).length + t.enc.length) ((done.length : Int) - 1 + 1) (.pointer (some ⟨wr.heap.size, 0, none⟩)) (.slice dA t.data.length dc)
        have e1 : (code (done ++ [t])).length = (code done).length + t.enc.length := by rw [code_append]; simp [code]
        have e2 : (((done ++ [t]).length : Nat) : Int) - 1 = (done.length : Int) - 1 + 1 := by simp
        rw [e1, e2]
        exact hc

end Go.Proofs.YtafpgikhcjildaaGreatDoor
