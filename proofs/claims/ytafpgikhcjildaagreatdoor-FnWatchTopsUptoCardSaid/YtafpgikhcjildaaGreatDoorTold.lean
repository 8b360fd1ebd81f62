/- Pushes, where each step is told. -/
import Derived.Test.YtafpgikhcjildaaGreatDoorPushes
import Derived.Test.YtafpgikhcjildaaGreatDoorWatch
namespace Go.Proofs.YtafpgikhcjildaaGreatDoor
open Go.RowKit Go.Proofs

set_option maxRecDepth 100000

/-- The block that tells a step. -/
def SiOk (g : Nat) (w : World) (si m : Nat) : Prop := si ≠ g ∧ ∃ (x y : Nat) (u v : Value), Blk w si 45 #[.int .i64 x, .int .i64 y, u, v] ∧ x ≤ m ∧ y ≤ m

/-- What is told of, and what the machine may do to it: TI tops B w says that these tops have been told. -/
structure Told (g : Nat) (fid : FuncId) (cap : Array Value) (TI : List (List UInt8) → Bd → World → Prop) : Prop where
  step : ∀ (w w' : World) (B : Bd) (cs : Array Value) (xss tops : List (List UInt8)), Vm w g B cs xss → TI tops B w → Fs g B w w' → TI tops B w'
  tell : ∀ (w w1 : World) (B : Bd) (cs : Array Value) (xss tops : List (List UInt8)) (si x y T TA : Nat) (vs : List Value), Vm w g B cs xss → TI tops B w → Below w.heap.size w w1 → w.heap.size ≤ si → w.heap.size ≤ T → tops.length ≤ 5000 → xss.length ≤ 1000 → (∀ xs ∈ xss, xs.length ≤ 1000000) →
    x ≤ 1000001 → y ≤ 1000001 →
    Blk w1 si 45 #[.int .i64 x, .int .i64 y, .slice (some ⟨T, 0, none⟩) xss.length xss.length, .slice (some ⟨TA, 0, none⟩) 0 0] → Cells w1 (some ⟨T, 0, none⟩) xss.length vs → RdL 0 w1 vs xss →
    Calls Tryz.prog fid (#[.pointer (some ⟨si, 0, none⟩)] ++ cap) w1 fun e w2 => e = .returned .nilIface ∧ ∃ B2, Vm w2 g B2 cs xss ∧ TI (tops ++ [xss.getLastD []]) B2 w2 ∧
      Blk w2 si 45 #[.int .i64 x, .int .i64 y, .slice (some ⟨T, 0, none⟩) xss.length xss.length, .slice (some ⟨TA, 0, none⟩) 0 0] ∧ ∀ (v : Value) (bs : List UInt8), Rd 0 w1 v bs → Rd 0 w2 v bs

section
variable {w w' : World} {g : Nat} {B : Bd} {sb si k oi pb po n c off len v k' m sj : Nat} {cs : Array Value} {xss xs1 tops : List (List UInt8)} {pos : Int} {nm : ByteArray} {dA : Option Addr} {dn dc : Nat} {R : Value → World → Prop}
  {fid : FuncId} {cap : Array Value} {TI : List (List UInt8) → Bd → World → Prop}

theorem tell_of (hT : Told g fid cap TI) (m : Nat) (hm : m ≤ 1000001) {K : Nat → World → Prop} {x y : Nat} (hV : Vm w g B cs xss) (hTI : TI tops B w) (ht : tops.length ≤ 5000) (hl : xss.length ≤ 1000) (hx : ∀ xs ∈ xss, xs.length ≤ 1000000)
    (h12 : cs[12]? = some (.int .i64 x)) (h13 : cs[13]? = some (.int .i64 y)) (hx1 : x ≤ 1000000) (hy1 : y ≤ 1000000) (h25 : cs[25]? = some (.slice none 0 0)) (h33 : cs[33]? = some (.func (.func fid) #[] cap))
    (hK : ∀ si w2 B2, Vm w2 g B2 cs xss → TI (tops ++ [xss.getLastD []]) B2 w2 → (∀ (v : Value) (bs : List UInt8), Rd 0 w v bs → Rd 0 w2 v bs) → SiOk g w2 si m → K si w2) : Tell g fid cap m K w := by
  obtain ⟨A, c, items, h1, h2, h3⟩ := hV.stk
  have hlt := hV.blk.lt
  refine ⟨x, y, xss.length, c, A, items, xss, hlt, (hV.blk.cell 12).trans h12, (hV.blk.cell 13).trans h13, (hV.blk.cell 23).trans h1, (hV.blk.cell 25).trans h25, (hV.blk.cell 33).trans h33, Cells.of_own h2, h3, by omega, hx, hx1, hy1, ?_⟩
  intro w1 si x' y' T TA vs' hb hsi hsT hxm hym hblk hc hr
  refine (hT.tell w w1 B cs xss tops si x' y' T TA vs' hV hTI hb hsi hsT ht hl hx (by omega) (by omega) hblk hc hr).mono ?_
  rintro e w2 ⟨rfl, B2, hv2, hti2, hb2, hrd⟩
  exact ⟨rfl, hK si w2 B2 hv2 hti2 (fun v bs h => hrd v bs (h.below hb)) ⟨by omega, x', y', _, _, hb2, hxm, hym⟩⟩

theorem watch_mid (hT : Told g fid cap TI) (h : StepIn w g B cs xss sb si k oi pb po n c off len v k' pos nm dA dn dc xs1 True False) (hoff : off + len < n) (hoi : oi < 1000000) (h33 : cs[33]? = some (.func (.func fid) #[] cap)) (hTI : TI tops B w) (ht : tops.length ≤ 5000)
    (hx : ∀ xs ∈ xs1, xs.length ≤ 1000000)
    (hgood : ∀ w' B' cs' sj', Vm w' g B' cs' xs1 → En cs' sb si k' (oi + 1) (.slice (some ⟨pb, po, none⟩) n c) (off + len) (pos + 1) → Kp cs cs' → TI (tops ++ [xs1.getLastD []]) B' w' → (∀ (v : Value) (bs : List UInt8), Rd 0 w v bs → Rd 0 w' v bs) → SiOk g w' sj' 1000000 → GoesW g fid cap R m sj' w') :
    GoesW g fid cap R (m + 1) sj w := by
  have hV := h.vm
  have hsi := h.hsi
  have hx1 := h.hx1
  refine (step_any h (.inl hoff)).mono ?_
  rintro e w' (⟨-, ⟨rfl, -, cs', hv', he', hk', hf'⟩ | ⟨r, rfl, hFt, hF, -⟩⟩ | ⟨hc, -⟩)
  · exact .inr (.inr ⟨rfl, tell_of hT 1000000 (by omega) hv' (hT.step _ _ _ _ _ _ hV hTI hf') ht hx1 hx he'.c12 he'.c13 (by omega) (by omega) he'.c25 ((hk' 33 (by omega)).trans h33)
      fun sj' w2 B2 hv2 hti hrd hs => hgood w2 B2 cs' sj' hv2 he' hk' hti (fun v bs h1 => hrd v bs (hf'.rd hV.blk h1)) hs⟩)
  · exact hF.elim
  · omega

theorem watch_end (hT : Told g fid cap TI) (h : StepIn w g B cs xss sb 1 k oi pb po n c off len v k' pos nm dA dn dc xs1 True False) (hoff : off + len = n) (h33 : cs[33]? = some (.func (.func fid) #[] cap)) (hTI : TI tops B w) (ht : tops.length ≤ 5000)
    (hx : ∀ xs ∈ xs1, xs.length ≤ 1000000) (hsj : SiOk g w sj 1000000)
    (hgood : ∀ w' B' cs', Vm w' g B' cs' xs1 → cs'[12]? = some (.int .i64 2) → Kp cs cs' → TI (tops ++ [xs1.getLastD []]) B' w' → Ends g R w') :
    GoesW g fid cap R (m + 1) sj w := by
  have hV := h.vm
  have hx1 := h.hx1
  have h25 := h.en.c25
  refine (step_any h (.inr ⟨hoff, rfl⟩)).mono ?_
  rintro e w' (⟨hc, -⟩ | ⟨-, ⟨rfl, -, cs', hv', h12, h13, hk', hf'⟩ | ⟨r, rfl, hFt, hF, -⟩⟩)
  · omega
  · obtain ⟨hne, x, y, u1, u2, hb, hxm, hym⟩ := hsj
    have hb' := hf'.blk hb hne (.inr (by decide))
    exact .inr (.inl ⟨rfl, ⟨x, y, hb'.cell 0, hb'.cell 1, hxm, hym⟩, tell_of (x := 2) (y := 0) hT 1000001 (by omega) hv' (hT.step _ _ _ _ _ _ hV hTI hf') ht hx1 hx h12 h13 (by omega) (by omega) ((hk' 25 (by omega)).trans h25) ((hk' 33 (by omega)).trans h33)
      fun sj' w2 B2 hv2 hti _ _ => hgood w2 B2 cs' hv2 h12 hk' hti⟩)
  · exact hF.elim
end

/-- Some pushes, and a true element behind them, told. -/
theorem pushes_watch {R : Value → World → Prop} {g : Nat} {fid : FuncId} {cap : Array Value} {TI : List (List UInt8) → Bd → World → Prop} (hT : Told g fid cap TI) (mn : Bool) (bs : List UInt8) {sb pb po n c k : Nat} (hn : n ≤ 10000) (ds : List (List UInt8)) :
    ∀ {w : World} {B : Bd} {cs : Array Value} {xss tops : List (List UInt8)} {off oi sj : Nat} {pos : Int},
    Vm w g B cs xss → En cs sb 1 k oi (.slice (some ⟨pb, po, none⟩) n c) off pos → cs[24]? = some (.bool mn) → cs[33]? = some (.func (.func fid) #[] cap) → Rd 0 w (.slice (some ⟨pb, po, none⟩) n c) bs → bs.drop off = code (ds.map pushT) ++ [81] → (∀ d ∈ ds, d.length ≤ 520) →
    xss.length + ds.length < 1000 → oi + ds.length ≤ 100000 → -1 ≤ pos → pos + ds.length ≤ 100000 → (∀ xs ∈ xss, xs.length ≤ 1000000) → TI tops B w → tops.length + ds.length ≤ 4000 → SiOk g w sj 1000000 →
    (∀ w' B' cs', Vm w' g B' cs' (xss ++ ds ++ [[1]]) → cs'[12]? = some (.int .i64 2) → Kp cs cs' → TI (tops ++ ds ++ [[1]]) B' w' → Ends g R w') → GoesW g fid cap R (ds.length + 1) sj w := by
  induction ds with
  | nil =>
    intro w B cs xss tops off oi sj pos hV hE h24 h33 hrd hdrop hds hx hoi hp0 hp hxs hti ht hsj hfin
    have hlen : n = off + 1 := by
      have h1 := congrArg List.length hdrop
      have h2 := hrd.len.1
      simp [code] at h1
      omega
    obtain ⟨nm, dA, dc, i⟩ := stepIn_tok (t := ⟨81, []⟩) (rest := []) (xs1 := xss ++ [[1]]) (G := True) (F := False) (k' := k) hV hE (by omega) (by omega) (by simp at hoi; omega) (by simp at hx ⊢; omega) hrd
      (by rw [hdrop]; rfl) (.inl ⟨rfl, .inr (show 78 < 81 by omega), (show 81 ≤ 255 by omega), _, op81⟩) hp0 (by simp at hp; omega)
      (fun dA dc w1 cs1 hr hv1 he1 hk1 _ hob _ => small_ran hv1 he1 (by omega) (by simp) runs81 hob (min_ok mn ((hv1.blk.cell 24).trans ((hk1 24 (by omega)).trans h24)) (.inl (by omega))) (opcodeN_vm w1 g B _ cs1 xss _ 81 (by omega) (by omega) hob hv1 (by simp at hx; omega)))
    refine watch_end hT i (by have := len81; omega) h33 hti (by simp at ht; omega) ?_ hsj ?_
    · intro xs h
      rw [List.mem_append, List.mem_singleton] at h
      rcases h with h | rfl
      · exact hxs xs h
      · simp
    intro w1 B1 cs1 hv1 h12 hk1 hti1
    exact hfin w1 B1 cs1 (by simpa using hv1) h12 hk1 (by simpa using hti1)
  | cons d ds ih =>
    intro w B cs xss tops off oi sj pos hV hE h24 h33 hrd hdrop hds hx hoi hp0 hp hxs hti ht hsj hfin
    have hd := hds d (by simp)
    simp only [List.length_cons] at hx hoi hp ht
    have hdrop' : bs.drop off = (pushT d).enc ++ (code (ds.map pushT) ++ [81]) := by
      rw [hdrop]
      simp [code]
    have hlen : off + (pushT d).enc.length < n := by
      have h1 := congrArg List.length hdrop'
      have h2 := hrd.len.1
      simp at h1
      omega
    obtain ⟨nm, dA, dc, i⟩ := stepIn_tok (t := pushT d) (rest := code (ds.map pushT) ++ [81]) (xs1 := xss ++ [d]) (G := True) (F := False) (k' := k) hV hE (by omega) (by omega) (by omega) (by simp; omega) hrd
      hdrop' (tokS_pushT d (by omega)) hp0 (by omega)
      (fun dA dc w1 cs1 hr hv1 he1 hk1 _ hob _ => push_gen d hd mn hv1 he1 ((hk1 24 (by omega)).trans h24) (by omega) hob rfl hr)
    have hxs' : ∀ xs ∈ xss ++ [d], xs.length ≤ 1000000 := by
      intro xs h
      rw [List.mem_append, List.mem_singleton] at h
      rcases h with h | rfl
      · exact hxs xs h
      · omega
    refine watch_mid hT i hlen (by omega) h33 hti (by omega) hxs' ?_
    intro w1 B1 cs1 sj1 hv1 he1 hk1 hti1 hrd1 hsj1
    refine ih hv1 he1 ((hk1 24 (by omega)).trans h24) ((hk1 33 (by omega)).trans h33) (hrd1 _ _ hrd) ?_ (fun d' h' => hds d' (by simp [h'])) (by simp; omega) (by omega) (by omega) (by omega) hxs' hti1 (by simp; omega) hsj1 ?_
    · rw [← List.drop_drop, hdrop', List.drop_left]
    · intro w' B' cs' hv h12 hk hti2
      exact hfin w' B' cs' (by simpa using hv) h12 (hk1.trans hk) (by simpa using hti2)

/-- Execute, of pushes that are told. -/
theorem execute_told {g : Nat} {fid : FuncId} {cap : Array Value} {TI : List (List UInt8) → Bd → World → Prop} (hT : Told g fid cap TI) (mn : Bool) (bs : List UInt8) {w : World} {B : Bd} {sb pb po n c : Nat} {cs : Array Value} (fl : Int) (hfl : bits .and .u32 fl 32 = 0) (ds : List (List UInt8)) (hn : n ≤ 10000)
    (hV : Vm w g B cs []) (hE : En cs sb 1 0 0 (.slice (some ⟨pb, po, none⟩) n c) 0 (-1)) (h0 : cs[0]? = some (.int .u32 fl)) (h24 : cs[24]? = some (.bool mn)) (h33 : cs[33]? = some (.func (.func fid) #[] cap))
    (hrd : Rd 0 w (.slice (some ⟨pb, po, none⟩) n c) bs) (hbs : bs = code (ds.map pushT) ++ [81]) (hds : ∀ d ∈ ds, d.length ≤ 520) (hx : ds.length < 1000) (hti : TI [] B w)
    (hcf : ∀ (args : Array Value) (w : World), (callFunc fid args).run Tryz.prog w = .ok (.enter fid args) w) :
    Calls Tryz.prog 17 #[.pointer (some ⟨g, 0, none⟩)] w fun e w' => e = .returned .nilIface ∧ ∃ B', TI ([[]] ++ ds ++ [[1]]) B' w' := by
  refine (execute_watch w g (ds.length + 1) fid cap (fun r w' => r = .nilIface ∧ ∃ B', TI ([[]] ++ ds ++ [[1]]) B' w') ?_ ((hV.blk.cell 6).trans hE.c6) hcf).mono ?_
  · refine tell_of (x := 1) (y := 0) hT 1000000 (by omega) hV hti (by simp) (by simp) (by simp) hE.c12 hE.c13 (by omega) (by omega) hE.c25 h33 ?_
    intro si w2 B2 hv2 hti2 hrd2 hsi
    refine pushes_watch hT mn bs hn ds hv2 hE h24 h33 (hrd2 _ _ hrd) (by rw [hbs]; rfl) hds (by simpa using hx) (by omega) (by omega) (by omega) (by simp) hti2 (by simp; omega) hsi ?_
    intro w' B' cs' hv h12 hk hti'
    have e11 := (hk 11 (by omega)).trans hE.c11
    refine (check_top w' g B' sb fl cs' ds hv (by omega) ((hk 0 (by omega)).trans h0) hfl ((hk 30 (by omega)).trans hE.c30) ((hk 32 (by omega)).trans hE.c32) e11 h12).mono ?_
    rintro e w2 ⟨rfl, cs2, hv2, hk2, hf2⟩
    exact ⟨_, rfl, .inl rfl, rfl, B', hT.step _ _ _ _ _ _ hv hti' hf2⟩
  · rintro e w' ⟨r, rfl, -, rfl, h⟩
    exact ⟨rfl, h⟩
end Go.Proofs.YtafpgikhcjildaaGreatDoor
