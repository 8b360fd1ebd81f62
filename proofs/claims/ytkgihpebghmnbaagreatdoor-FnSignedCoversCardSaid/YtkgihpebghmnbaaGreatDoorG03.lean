/- Small numbers of scripts as bytes. A walk by reckoning: code that asks nothing of the world but new blocks is run by a function, whose answer the kernel reckons; soundness against the model's rules. -/
import Derived.Test.YtkgihpebghmnbaaGreatDoorG02
import Derived.WalkKit
import Derived.KernelRfl
import Derived.Below
namespace Go.Proofs.YtkgihpebghmnbaaGreatDoor
open Go.RowKit Go.Proofs

set_option maxRecDepth 100000

theorem make09 : ∀ w : World, (Instr.makeSlice 30 (.int .i64 0) (.int .i64 9)).run Tryz.prog w = .ok (.slice (some ⟨w.heap.size, 0, none⟩) 0 9) (w.alloc (.cells #[.int .u8 0, .int .u8 0, .int .u8 0, .int .u8 0, .int .u8 0, .int .u8 0, .int .u8 0, .int .u8 0, .int .u8 0] 5)) := fun _ => by kernel_rfl

theorem and255 (n : Int) (h1 : 1 ≤ n) (h2 : n ≤ 16) : bits BinOp.and IntKind.i64 n 255 = n := by
  rcases (show n = 1 ∨ n = 2 ∨ n = 3 ∨ n = 4 ∨ n = 5 ∨ n = 6 ∨ n = 7 ∨ n = 8 ∨ n = 9 ∨ n = 10 ∨ n = 11 ∨ n = 12 ∨ n = 13 ∨ n = 14 ∨ n = 15 ∨ n = 16 by omega) with h | h | h | h | h | h | h | h | h | h | h | h | h | h | h | h <;> (subst h; decide)

theorem and128 (n : Int) (h1 : 1 ≤ n) (h2 : n ≤ 16) : bits BinOp.and IntKind.u8 n 128 = 0 := by
  rcases (show n = 1 ∨ n = 2 ∨ n = 3 ∨ n = 4 ∨ n = 5 ∨ n = 6 ∨ n = 7 ∨ n = 8 ∨ n = 9 ∨ n = 10 ∨ n = 11 ∨ n = 12 ∨ n = 13 ∨ n = 14 ∨ n = 15 ∨ n = 16 by omega) with h | h | h | h | h | h | h | h | h | h | h | h | h | h | h | h <;> (subst h; decide)

/-- Bytes of a number from 1 to 16. -/
theorem bytes_small (w : World) (n : Int) (h1 : 1 ≤ n) (h2 : n ≤ 16) :
    Calls Tryz.prog 227 #[.int .i64 n] w fun e w' => ∃ A c, e = .returned (.slice A 1 c) ∧ w'.ownsRow w.heap.size 5 1 (.slice A 1 c) 1 [.int .u8 n] ∧ Below w.heap.size w w' := by
  obtain ⟨i0, hi, hz0, hz1, hz2⟩ := info_parts info_u8
  have hmk := make09
  have hne : (n == 0) = false := by simp; omega
  have hand := and255 n h1 h2
  have hmod : n % 256 = n := by omega
  have hone : Hid (∀ u ∈ [Value.int .u8 n], u.oneCell' = true) := by intro u hu; simp at hu; subst hu; rfl
  have hown := World.ownsRow_made (base := w.heap.size) (e := 5) (size := 1) w #[.int .u8 0, .int .u8 0, .int .u8 0, .int .u8 0, .int .u8 0, .int .u8 0, .int .u8 0, .int .u8 0, .int .u8 0] 9 (Nat.le_refl _) (by simp [maxLen]) rfl
  have hO := Lib.hid (hown.alloc (.cells #[.int .u8 n] 5))
  clear hown
  have hb : Hid (w.heap.size ≤ ((w.alloc (.cells #[.int .u8 0, .int .u8 0, .int .u8 0, .int .u8 0, .int .u8 0, .int .u8 0, .int .u8 0, .int .u8 0, .int .u8 0] 5)).alloc (.cells #[.int .u8 n] 5)).heap.size) := by show _ ≤ _; simp; omega
  go_enter Tryz.func227, Tryz.ntmps227
  go_wp2
  refine wp_loop_rounds 2 ?_
  rw [rounds_succ]
  go_wp2_with (at_builtin; refine Stop.mk ?_)
  refine Stop.go ?_
  refine wpList_append_cells _ rfl (.tmp 16) (.tmp 20) 30 rfl w.heap.size 5 i0 _ 1 Tryz.underlying30 hi hz0 hz1 hz2 rfl _ 0 [] rfl hO.out (some ⟨w.heap.size + 1, 0, none⟩) 1 1 [.int .u8 n] rfl ?_ hone.out (by omega) (by omega) hb.out ?_
  · have := Cells.one (w.alloc (.cells #[.int .u8 0, .int .u8 0, .int .u8 0, .int .u8 0, .int .u8 0, .int .u8 0, .int .u8 0, .int .u8 0, .int .u8 0] 5)) (.int .u8 n) 5
    simpa using this
  intro v' w1 hown' hgrow hat
  simp only [Nat.zero_add, List.nil_append] at hown'
  obtain ⟨A', c', rfl⟩ := own_form hown'
  have hbel : Below w.heap.size w w1 := (((Below.refl _ _).alloc (Nat.le_refl _) _).alloc (by simp) _).grown hgrow (by simp; omega) (fun k hk => by injection hk with hk; exact Nat.le_of_eq hk)
  obtain ⟨g, cap, hform, hbg, hlt⟩ := hown'.form (by omega)
  injection hform with e1 e2 e3
  subst e1; subst e3
  have hx : w1.cell? ⟨g, 0, none⟩ = some (.int .u8 n) := by
    have := hown'.cells (g := g) rfl 0 (.int .u8 n) rfl
    rwa [addr_add, Nat.zero_add] at this
  have hf : w1.frozen? ⟨g, 0, none⟩ = false := hown'.frozenAt 0
  have HB := Lib.hid hbel
  have HO := Lib.hid hown'
  clear hbel hown' hgrow hat
  go_wp2
  rw [rounds_succ]
  have hdiv : n / 256 = 0 := by omega
  have hand8 := and128 n h1 h2
  go_wp2
  go_ret
  exact ⟨_, _, rfl, HO.out, HB.out⟩
end Go.Proofs.YtkgihpebghmnbaaGreatDoor

namespace Go.Proofs.YtkgihpebghmnbaaGreatDoor
open Go.RowKit

/-- What a computation gives that reads cells (what they hold is handed in) and makes new blocks; n: how many blocks there are. -/
def semOut {α : Type} (P : Program) : Sem α → Nat → List Value → Option (α × List Obj × List (Addr × Value) × List Value)
  | .pure a, _, m => some (a, [], [], m)
  | .load _ ad k, n, m => match m with
    | v :: m => match semOut P (k v) n m with
      | some (a, os, ls, m') => some (a, os, (ad, v) :: ls, m')
      | none => none
    | [] => none
  | .new o k, n, m => match semOut P (k n) (n + 1) m with
    | some (a, os, ls, m') => some (a, o :: os, ls, m')
    | none => none
  | .program k, n, m => semOut P (k P) n m
  | .mark _ k, n, m => semOut P k n m
  | _, _, _ => none

def allocs (w : World) : List Obj → World
  | [] => w
  | o :: os => allocs (w.alloc o) os

/-- The cells that were read hold what was handed in. -/
def Holds (w : World) (ls : List (Addr × Value)) : Prop := ∀ x ∈ ls, w.cell? x.1 = some x.2
theorem Holds.alloc {w : World} {ls : List (Addr × Value)} (h : Holds w ls) (o : Obj) : Holds (w.alloc o) ls := fun x hx => by
  have hc := h x hx
  have hlt := World.block_lt_of_cell? w _ hc
  rw [World.cell?_of_block (w := w) (Below.heap_alloc w o _ hlt)]
  exact hc
theorem Holds.allocs {w : World} {ls : List (Addr × Value)} (h : Holds w ls) (os : List Obj) : Holds (allocs w os) ls := by
  induction os generalizing w with
  | nil => exact h
  | cons o os ih => exact ih (h.alloc o)

theorem semOut_run {α : Type} (P : Program) (s : Sem α) : ∀ (w : World) (a : α) (os : List Obj) (ls : List (Addr × Value)) (m m' : List Value), semOut P s w.heap.size m = some (a, os, ls, m') → Holds w ls → s.run P w = .ok a (allocs w os) := by
  induction s with
  | pure a => intro w a' os ls m m' h _; simp [semOut] at h; obtain ⟨rfl, rfl, _, _⟩ := h; rfl
  | load md ad k ih =>
    intro w a os ls m m' h hh
    cases m with
    | nil => simp [semOut] at h
    | cons v m1 =>
      simp only [semOut] at h
      split at h
      · rename_i a1 os1 ls1 m2 h1
        simp only [Option.some.injEq, Prod.mk.injEq] at h
        obtain ⟨rfl, rfl, rfl, rfl⟩ := h
        have hc := hh (ad, v) (List.mem_cons_self ..)
        simp only [Sem.run, hc]
        exact ih v w a1 os1 ls1 m1 m2 h1 (fun x hx => hh x (List.mem_cons_of_mem _ hx))
      · cases h
  | new o k ih =>
    intro w a os ls m m' h hh
    simp only [semOut] at h
    split at h
    · rename_i a1 os1 ls1 m2 h1
      simp only [Option.some.injEq, Prod.mk.injEq] at h
      obtain ⟨rfl, rfl, rfl, rfl⟩ := h
      show (k w.heap.size).run P (w.alloc o) = _
      rw [ih w.heap.size (w.alloc o) a1 os1 ls1 m m2 (by simpa using h1) (hh.alloc o)]
      rfl
    · cases h
  | program k ih => intro w a os ls m m' h hh; exact ih P w a os ls m m' h hh
  | mark mk k ih => intro w a os ls m m' h hh; exact ih w a os ls m m' h hh
  | store => intro w a os ls m m' h; simp [semOut] at h
  | shape => intro w a os ls m m' h; simp [semOut] at h
  | freeze => intro w a os ls m m' h; simp [semOut] at h
  | frozen => intro w a os ls m m' h; simp [semOut] at h
  | getObj => intro w a os ls m m' h; simp [semOut] at h
  | setObj => intro w a os ls m m' h; simp [semOut] at h
  | choose => intro w a os ls m m' h; simp [semOut] at h
  | sys => intro w a os ls m m' h; simp [semOut] at h
  | halt => intro w a os ls m m' h; simp [semOut] at h

/-- The slots: a row as it was, and what has been put since, the last first. -/
def slots (t0 : List Value) : List (Nat × Value) → Array Value
  | [] => t0.toArray
  | (d, v) :: u => (slots t0 u).setIfInBounds d v

def look (t0 : List Value) : List (Nat × Value) → Nat → Value
  | [], i => t0.getD i undef
  | (d, v) :: u, i => if d = i then v else look t0 u i

theorem slots_size (t0 : List Value) (u : List (Nat × Value)) : (slots t0 u).size = t0.length := by
  induction u with
  | nil => simp [slots]
  | cons x u ih => simp [slots, ih]

theorem slots_look (t0 : List Value) (u : List (Nat × Value)) (hu : ∀ x ∈ u, x.1 < t0.length) (i : Nat) : (slots t0 u).getD i undef = look t0 u i := by
  induction u with
  | nil => simp [slots, look, Array.getD_eq_getD_getElem?, List.getD_eq_getElem?_getD]
  | cons x u ih =>
    obtain ⟨d, v⟩ := x
    have ih' := ih (fun y hy => hu y (List.mem_cons_of_mem _ hy))
    have hd : d < t0.length := hu (d, v) (List.mem_cons_self ..)
    simp only [slots, look]
    by_cases h : d = i
    · subst h
      simp [Array.getD_eq_getD_getElem?, slots_size, hd]
    · rw [if_neg h, ← ih']
      simp [Array.getD_eq_getD_getElem?, h]

def ev (t0 : List Value) (u : List (Nat × Value)) : Operand → Value
  | .tmp t => look t0 u t
  | .const v => v
  | .global g => .pointer (some ⟨g, 0, none⟩)
  | .func f => .func (.func f) #[] #[]

theorem ev_eval (t0 : List Value) (u : List (Nat × Value)) (hu : ∀ x ∈ u, x.1 < t0.length) (x : Operand) : (Act.mk (slots t0 u) []).eval x = ev t0 u x := by
  cases x <;> first | exact slots_look t0 u hu _ | rfl

/-- Where a walk by reckoning comes to: what has been put, what has been made; or a call that comes next, with where its answer goes and what follows. -/
inductive Fin where
  | ret (u : List (Nat × Value)) (os : List Obj) (ls : List (Addr × Value))
  | call (f : FuncId) (args : Array Value) (dst : Nat) (u : List (Nat × Value)) (os : List Obj) (ls : List (Addr × Value)) (m : List Value)
  | stuck

inductive Kon where
  | ops (rest : List Oper) (k : Kon)
  | seq (y : Code) (k : Kon)
  | block (id : Nat) (k : Kon)
  | nil

def Kon.leave (id : Nat) : Kon → Option Kon
  | .ops _ k => k.leave id
  | .seq _ k => k.leave id
  | .block id' k => if id = id' then some k else k.leave id
  | .nil => none

/-- Run what stands next in the continuation. n: how many blocks there are; sz: how many slots; m: what the next reads give. -/
def go (P : Program) (t0 : List Value) (sz : Nat) : Nat → Kon → List (Nat × Value) → List Obj → List (Addr × Value) → Nat → List Value → Fin × Kon
  | 0, k, _, _, _, _, _ => (.stuck, k)
  | _ + 1, .nil, u, os, ls, _, _ => (.ret u os ls, .nil)
  | fuel + 1, .block _ k, u, os, ls, n, m => go P t0 sz fuel k u os ls n m
  | fuel + 1, .ops [] k, u, os, ls, n, m => go P t0 sz fuel k u os ls n m
  | fuel + 1, .ops (o :: rest) k, u, os, ls, n, m =>
    match o.guard with
    | some _ => (.stuck, k)
    | none =>
      match semOut P (execOp (ev t0 u) o) n m with
      | some (.value v, new, ls', m') =>
        match o.dst with
        | some d => if d < sz then go P t0 sz fuel (.ops rest k) ((d, v) :: u) (os ++ new) (ls' ++ ls) (n + new.length) m' else (.stuck, k)
        | none => go P t0 sz fuel (.ops rest k) u (os ++ new) (ls' ++ ls) (n + new.length) m'
      | some (.enter f args, [], [], m') =>
        match o.dst with
        | some d => if d < sz then (.call f args d u os ls m', .ops rest k) else (.stuck, k)
        | none => (.stuck, k)
      | _ => (.stuck, k)
  | fuel + 1, .seq y k, u, os, ls, n, m =>
    match y with
    | .skip => go P t0 sz fuel k u os ls n m
    | .seq x y => go P t0 sz fuel (.seq x (.seq y k)) u os ls n m
    | .block id c => go P t0 sz fuel (.seq c (.block id k)) u os ls n m
    | .cond c x y => match ev t0 u c with
      | .bool b => go P t0 sz fuel (.seq (if b then x else y) k) u os ls n m
      | _ => (.stuck, k)
    | .region _ ops false => go P t0 sz fuel (.ops ops.toList k) u os ls n m
    | .exit id => match k.leave id with
      | some k' => go P t0 sz fuel k' u os ls n m
      | none => (.stuck, k)
    | .ret => (.ret u os ls, .nil)
    | _ => (.stuck, k)

/-- What is still to be shown where a continuation stands. -/
def Kon.wp (P : Program) (Q : Exit → Act → World → Prop) : Kon → Exit → Act → World → Prop
  | .nil, e, a, w => Q e a w
  | .seq y k, .normal, a, w => y.wp P (Kon.wp P Q k) a w
  | .seq _ k, e, a, w => Kon.wp P Q k e a w
  | .block id k, .exit id', a, w => if id' = id then Kon.wp P Q k .normal a w else Kon.wp P Q k (.exit id') a w
  | .block _ k, e, a, w => Kon.wp P Q k e a w
  | .ops rest k, .normal, a, w => ∀ ops : Array Oper, wpList P ops (Kon.wp P Q k) rest a w
  | .ops _ k, e, a, w => Kon.wp P Q k e a w

theorem Kon.wp_ret (P : Program) (Q : Exit → Act → World → Prop) (k : Kon) (a : Act) (w : World) : Kon.wp P Q k .ret a w = Q .ret a w := by
  induction k with
  | ops rest k ih => exact ih
  | seq y k ih => exact ih
  | block id k ih => exact ih
  | nil => rfl

theorem Kon.wp_panic (P : Program) (Q : Exit → Act → World → Prop) (k : Kon) (c : List PanicEntry) (a : Act) (w : World) : Kon.wp P Q k (.panic c) a w = Q (.panic c) a w := by
  induction k with
  | ops rest k ih => exact ih
  | seq y k ih => exact ih
  | block id k ih => exact ih
  | nil => rfl

theorem Kon.wp_outgrown (P : Program) (Q : Exit → Act → World → Prop) (k : Kon) (a : Act) (w : World) : Kon.wp P Q k .outgrown a w = Q .outgrown a w := by
  induction k with
  | ops rest k ih => exact ih
  | seq y k ih => exact ih
  | block id k ih => exact ih
  | nil => rfl

theorem Kon.wp_leave {P : Program} {Q : Exit → Act → World → Prop} {id : Nat} {k k' : Kon} {a : Act} {w : World} (h : k.leave id = some k') (hq : Kon.wp P Q k' .normal a w) : Kon.wp P Q k (.exit id) a w := by
  induction k with
  | ops rest k ih => exact ih h
  | seq y k ih => exact ih h
  | block id' k ih =>
    simp only [Kon.leave] at h
    simp only [Kon.wp]
    by_cases e : id = id'
    · rw [if_pos e] at h
      rw [if_pos e]
      injection h with h
      exact h ▸ hq
    · rw [if_neg e] at h
      rw [if_neg e]
      exact ih h
  | nil => simp [Kon.leave] at h

theorem wpList_any {P : Program} {ops : Array Oper} {Q : Exit → Act → World → Prop} {o : Oper} {rest : List Oper} {a : Act} {w : World} (hg : o.guard = none)
    (h : o.wp P a w (fun a' w' => wpList P ops Q rest a' w') Q) : wpList P ops Q (o :: rest) a w := by
  unfold wpList
  rw [if_pos (by simp [Region.wanted, hg])]
  exact .inl h

/-- The reads that a reckoned walk has made. -/
def readsOf : Fin × Kon → List (Addr × Value)
  | (.ret _ _ ls, _) => ls
  | (.call _ _ _ _ _ ls _, _) => ls
  | (.stuck, _) => []

/-- What the end of a reckoned walk owes. -/
def Fin.owes (P : Program) (Q : Exit → Act → World → Prop) (t0 : List Value) (w : World) : Fin × Kon → Prop
  | (.ret u os _, _) => (∀ x ∈ u, x.1 < t0.length) → Q .ret ⟨slots t0 u, []⟩ (allocs w os) ∧ Q .normal ⟨slots t0 u, []⟩ (allocs w os)
  | (.call f args d u os _ _, k) => (∀ x ∈ u, x.1 < t0.length) → Calls P f args (allocs w os) fun
      | .returned v, w'' => (∀ x ∈ (d, v) :: u, x.1 < t0.length) → Kon.wp P Q k .normal ⟨slots t0 ((d, v) :: u), []⟩ w''
      | .panicked chain, w'' => Kon.wp P Q k (.panic chain) ⟨slots t0 u, []⟩ w''
      | .outgrown, _ => LetsOut (Kon.wp P Q k)
  | (.stuck, _) => False

theorem size_allocs (w : World) (os : List Obj) : (allocs w os).heap.size = w.heap.size + os.length := by
  induction os generalizing w with
  | nil => rfl
  | cons o os ih => simp only [allocs, ih, World.size_alloc, List.length_cons]; omega

theorem allocs_append (w : World) (os os' : List Obj) : allocs w (os ++ os') = allocs (allocs w os) os' := by
  induction os generalizing w with
  | nil => rfl
  | cons o os ih => exact ih _

theorem readsOf_sub (P : Program) (t0 : List Value) (sz : Nat) : ∀ (fuel : Nat) (k : Kon) (u : List (Nat × Value)) (os : List Obj) (ls : List (Addr × Value)) (n : Nat) (m : List Value),
    (go P t0 sz fuel k u os ls n m).1 ≠ .stuck → ∀ x ∈ ls, x ∈ readsOf (go P t0 sz fuel k u os ls n m) := by
  intro fuel
  induction fuel with
  | zero => intro k u os ls n m h; exact absurd rfl h
  | succ fuel ih =>
    intro k u os ls n m
    cases k with
    | nil => exact fun _ x hx => hx
    | block id k => exact ih k u os ls n m
    | ops l k =>
      cases l with
      | nil => exact ih k u os ls n m
      | cons o rest =>
        simp only [go]
        split
        · exact fun h => absurd rfl h
        · split
          · split
            · split
              · exact fun h x hx => ih _ _ _ _ _ _ h x (List.mem_append_right _ hx)
              · exact fun h => absurd rfl h
            · exact fun h x hx => ih _ _ _ _ _ _ h x (List.mem_append_right _ hx)
          · split
            · split
              · exact fun _ x hx => hx
              · exact fun h => absurd rfl h
            · exact fun h => absurd rfl h
          · exact fun h => absurd rfl h
    | seq y k =>
      simp only [go]
      split
      · exact ih _ _ _ _ _ _
      · exact ih _ _ _ _ _ _
      · exact ih _ _ _ _ _ _
      · split
        · exact ih _ _ _ _ _ _
        · exact fun h => absurd rfl h
      · exact ih _ _ _ _ _ _
      · split
        · exact ih _ _ _ _ _ _
        · exact fun h => absurd rfl h
      · exact fun _ x hx => hx
      · exact fun h => absurd rfl h

theorem owes_stuck {P : Program} {Q : Exit → Act → World → Prop} {t0 : List Value} {w : World} {x : Fin × Kon} (h : Fin.owes P Q t0 w x) : x.1 ≠ .stuck := by
  obtain ⟨f, k⟩ := x
  cases f with
  | stuck => exact fun _ => h
  | ret => intro e; cases e
  | call => intro e; cases e

theorem go_sound {P : Program} {Q : Exit → Act → World → Prop} {t0 : List Value} {sz : Nat} (hsz : sz = t0.length) (w : World) :
    ∀ (fuel : Nat) (k : Kon) (u : List (Nat × Value)) (os : List Obj) (ls : List (Addr × Value)) (n : Nat) (m : List Value), n = (allocs w os).heap.size → (∀ x ∈ u, x.1 < t0.length) →
      Holds w (readsOf (go P t0 sz fuel k u os ls n m)) →
      Fin.owes P Q t0 w (go P t0 sz fuel k u os ls n m) → Kon.wp P Q k .normal ⟨slots t0 u, []⟩ (allocs w os) := by
  intro fuel
  induction fuel with
  | zero => intro k u os ls n m _ _ _ h; exact h.elim
  | succ fuel ih =>
    intro k u os ls n m hn hu hh h
    cases k with
    | nil => exact (h hu).2
    | block id k => exact ih k u os ls n m hn hu hh h
    | ops l k =>
      cases l with
      | nil => exact fun ops => ih k u os ls n m hn hu hh h
      | cons o rest =>
        simp only [go] at h hh
        split at h
        · exact h.elim
        · rename_i hg
          simp only [hg] at hh
          split at h
          · rename_i v new ls' m' hs
            simp only [hs] at hh
            subst hn
            have hput : ∀ (u' : List (Nat × Value)), (∀ x ∈ ls', w.cell? x.1 = some x.2) → (∀ ops : Array Oper, wpList P ops (Kon.wp P Q k) rest ⟨slots t0 u', []⟩ (allocs w (os ++ new))) → (Act.put ⟨slots t0 u, []⟩ o.dst v = ⟨slots t0 u', []⟩) →
                ∀ ops : Array Oper, wpList P ops (Kon.wp P Q k) (o :: rest) ⟨slots t0 u, []⟩ (allocs w os) := by
              intro u' hls hw hp ops
              refine wpList_any hg ?_
              unfold Oper.wp
              rw [show Act.eval ⟨slots t0 u, []⟩ = ev t0 u from funext (ev_eval t0 u hu), semOut_run P _ _ _ _ _ _ _ hs (Holds.allocs hls os), ← allocs_append]
              simp only [Oper.upon]
              rw [hp]
              exact hw ops
            split at h
            · rename_i d hd
              simp only [hd] at hh
              split at h
              · rename_i hlt
                rw [if_pos hlt] at hh
                have hu' : ∀ x ∈ (d, v) :: u, x.1 < t0.length := by
                  intro x hx
                  rcases List.mem_cons.1 hx with rfl | hx
                  · exact hsz ▸ hlt
                  · exact hu x hx
                exact hput _ (fun x hx => hh x (readsOf_sub P t0 sz _ _ _ _ _ _ _ (owes_stuck h) x (List.mem_append_left _ hx))) (ih (.ops rest k) _ _ _ _ _ (by rw [allocs_append, size_allocs (allocs w os) new]) hu' hh h) (by rw [hd]; rfl)
              · exact h.elim
            · rename_i hd
              simp only [hd] at hh
              exact hput _ (fun x hx => hh x (readsOf_sub P t0 sz _ _ _ _ _ _ _ (owes_stuck h) x (List.mem_append_left _ hx))) (ih (.ops rest k) _ _ _ _ _ (by rw [allocs_append, size_allocs (allocs w os) new]) hu hh h) (by rw [hd]; rfl)
          · rename_i f args m' hs
            subst hn
            have hrun := semOut_run P _ _ _ _ _ _ _ hs (fun x hx => by cases hx)
            split at h
            · rename_i d hd
              split at h
              · rename_i hlt
                intro ops
                refine wpList_any hg ?_
                unfold Oper.wp
                rw [show Act.eval ⟨slots t0 u, []⟩ = ev t0 u from funext (ev_eval t0 u hu), hrun]
                refine (h hu).mono ?_
                intro e w'' hq
                cases e with
                | returned v =>
                  have hu' : ∀ x ∈ (d, v) :: u, x.1 < t0.length := by
                    intro x hx
                    rcases List.mem_cons.1 hx with rfl | hx
                    · exact hsz ▸ hlt
                    · exact hu x hx
                  have := hq hu' ops
                  rw [hd]
                  exact this
                | panicked chain => exact hq
                | outgrown =>
                  obtain ⟨a0, w0, hq⟩ := hq
                  exact ⟨a0, w0, hq⟩
              · exact h.elim
            · exact h.elim
          · exact h.elim
    | seq y k =>
      simp only [go] at h hh
      split at h
      · exact wp_skip (ih k u os ls n m hn hu hh h)
      · rename_i x y
        refine wp_seq ?_
        have := ih (.seq x (.seq y k)) u os ls n m hn hu hh h
        refine Code.wp_mono ?_ this
        intro e a w hq
        cases e <;> exact hq
      · rename_i id c
        refine wp_block ?_
        have := ih (.seq c (.block id k)) u os ls n m hn hu hh h
        refine Code.wp_mono ?_ this
        intro e a w hq
        cases e <;> exact hq
      · rename_i c x y
        split at h
        · rename_i b hb
          simp only [hb] at hh
          refine wp_cond (t := b) (by rw [ev_eval t0 u hu]; exact hb) ?_
          exact ih (.seq (if b then x else y) k) u os ls n m hn hu hh h
        · exact h.elim
      · rename_i id ops
        refine wp_region_list ?_
        exact ih (.ops ops.toList k) u os ls n m hn hu hh h ops
      · rename_i id
        split at h
        · rename_i k' hk
          simp only [hk] at hh
          exact wp_exit (Kon.wp_leave hk (ih k' u os ls n m hn hu hh h))
        · exact h.elim
      · exact wp_ret (by rw [Kon.wp_ret]; exact (h hu).1)
      · exact h.elim

/-- What a reckoned walk hands back, what it made, what it read. -/
def retOf (t0 : List Value) (sz r : Nat) : Fin × Kon → Option (Value × List Obj × List (Addr × Value))
  | (.ret u os ls, _) => if u.all (fun x => decide (x.1 < sz)) then some (look t0 u r, os, ls) else none
  | _ => none

/-- The call to which a reckoned walk comes, and what was read. -/
def callOf : Fin × Kon → Option (FuncId × Array Value × List (Addr × Value))
  | (.call f args _ _ [] ls [], _) => some (f, args, ls)
  | _ => none

/-- What the walk hands back if that call hands back v. -/
def tailOf (P : Program) (t0 : List Value) (sz r fuel : Nat) (v : Value) (n : Nat) : Fin × Kon → Option (Value × List Obj × List (Addr × Value))
  | (.call _ _ d u [] _ [], k) => retOf t0 sz r (go P t0 sz fuel k ((d, v) :: u) [] [] n [])
  | _ => none

theorem all_lt {u : List (Nat × Value)} {sz : Nat} (h : u.all (fun x => decide (x.1 < sz)) = true) : ∀ x ∈ u, x.1 < sz := fun x hx => by
  have := List.all_eq_true.1 h x hx
  simpa using this

/-- The frame at a function's begin. -/
abbrev frame0 (args : Array Value) (sz : Nat) : List Value := args.toList ++ List.replicate (sz - args.size) undef

/-- A function that is walked by reckoning to its end: its answer, what it made, what it read. -/
theorem calls_reckoned {P : Program} {f : FuncId} {fn : Func} {c : Code} {args : Array Value} {R : Ending → World → Prop} (fuel : Nat) (w : World)
    (hf : P.funcs[f]? = some fn) (hb : fn.body = some c) (sz : Nat) (hn : fn.ntmps = sz) (hle : args.size ≤ sz) (r : Nat) (hr : fn.results = #[.tmp r])
    (m : List Value) (v : Value) (os : List Obj) (ls : List (Addr × Value))
    (hgo : retOf (frame0 args sz) sz r (go P (frame0 args sz) sz fuel (.seq c .nil) [] [] [] w.heap.size m) = some (v, os, ls))
    (hls : Holds w ls) (hR : R (.returned v) (allocs w os)) : Calls P f args w R := by
  have hsz : sz = (frame0 args sz).length := by simp; omega
  refine calls_of_wp hf hb ?_
  rw [hn, show args ++ Array.replicate (sz - args.size) undef = (frame0 args sz).toArray from by
    apply Array.ext'; simp]
  generalize hx : go P (frame0 args sz) sz fuel (.seq c .nil) [] [] [] w.heap.size m = x at hgo
  obtain ⟨x, k⟩ := x
  cases x with
  | call => simp [retOf] at hgo
  | stuck => simp [retOf] at hgo
  | ret u os' ls' =>
    simp only [retOf] at hgo
    split at hgo
    · rename_i hu
      simp only [Option.some.injEq, Prod.mk.injEq] at hgo
      obtain ⟨hv, rfl, rfl⟩ := hgo
      have hu' : ∀ x ∈ u, x.1 < (frame0 args sz).length := fun x hx => hsz ▸ all_lt hu x hx
      have hres : ∀ W : World, (results fn (slots (frame0 args sz) u)).run P W = .ok v W := by
        intro W
        rw [results_tmp hr, slots_look _ _ hu', hv]
      have := go_sound (P := P) (Q := bodyPost P fn R) hsz w fuel (.seq c .nil) [] [] [] w.heap.size m rfl (by simp) (by rw [hx]; exact hls) (by
        rw [hx]
        exact fun _ => ⟨⟨rfl, _, hres _, hR⟩, ⟨rfl, _, hres _, hR⟩⟩)
      refine Code.wp_mono ?_ this
      intro e a w hq
      cases e <;> exact hq
    · cases hgo

/-- A function that is walked by reckoning to one call, whose answer it hands back. -/
theorem calls_tail {P : Program} {f : FuncId} {fn : Func} {c : Code} {args : Array Value} {R : Ending → World → Prop} (fuel : Nat) (w : World)
    (hf : P.funcs[f]? = some fn) (hb : fn.body = some c) (sz : Nat) (hn : fn.ntmps = sz) (hle : args.size ≤ sz) (r : Nat) (hr : fn.results = #[.tmp r])
    (m : List Value) (g : FuncId) (gargs : Array Value) (ls : List (Addr × Value))
    (hgo : callOf (go P (frame0 args sz) sz fuel (.seq c .nil) [] [] [] w.heap.size m) = some (g, gargs, ls))
    (hend : ∀ v n, tailOf P (frame0 args sz) sz r fuel v n (go P (frame0 args sz) sz fuel (.seq c .nil) [] [] [] w.heap.size m) = some (v, [], []))
    (hls : Holds w ls) (hR : Calls P g gargs w R) : Calls P f args w R := by
  have hsz : sz = (frame0 args sz).length := by simp; omega
  refine calls_of_wp hf hb ?_
  rw [hn, show args ++ Array.replicate (sz - args.size) undef = (frame0 args sz).toArray from by
    apply Array.ext'; simp]
  generalize hx : go P (frame0 args sz) sz fuel (.seq c .nil) [] [] [] w.heap.size m = x at hgo hend
  obtain ⟨x, k⟩ := x
  cases x with
  | ret => simp [callOf] at hgo
  | stuck => simp [callOf] at hgo
  | call g' gargs' d u os ls' m' =>
    cases os with
    | cons o os => simp [callOf] at hgo
    | nil =>
      cases m' with
      | cons v0 m' => simp [callOf] at hgo
      | nil =>
      simp only [callOf, Option.some.injEq, Prod.mk.injEq] at hgo
      obtain ⟨rfl, rfl, rfl⟩ := hgo
      have := go_sound (P := P) (Q := bodyPost P fn R) hsz w fuel (.seq c .nil) [] [] [] w.heap.size m rfl (by simp) (by rw [hx]; exact hls) (by
        rw [hx]
        intro hu0
        refine hR.mono ?_
        intro e w'' hq
        cases e with
        | returned v =>
          intro hu2
          have he := hend v w''.heap.size
          simp only [tailOf] at he
          generalize hy : go P (frame0 args sz) sz fuel k ((d, v) :: u) [] [] w''.heap.size [] = y at he
          obtain ⟨y, k'⟩ := y
          cases y with
          | call => simp [retOf] at he
          | stuck => simp [retOf] at he
          | ret u' os' ls'' =>
            simp only [retOf] at he
            split at he
            · rename_i hu
              simp only [Option.some.injEq, Prod.mk.injEq] at he
              obtain ⟨hv, rfl, rfl⟩ := he
              have hu3 : ∀ x ∈ u', x.1 < (frame0 args sz).length := fun x hx => hsz ▸ all_lt hu x hx
              have hres : ∀ W : World, (results fn (slots (frame0 args sz) u')).run P W = .ok v W := by
                intro W
                rw [results_tmp hr, slots_look _ _ hu3, hv]
              refine go_sound (P := P) (Q := bodyPost P fn R) hsz w'' fuel k ((d, v) :: u) [] [] w''.heap.size [] rfl hu2 ?_ ?_
              · rw [hy]; exact fun x hx => by cases hx
              · rw [hy]
                exact fun _ => ⟨⟨rfl, _, hres _, hq⟩, ⟨rfl, _, hres _, hq⟩⟩
            · cases he
        | panicked chain =>
          show Kon.wp P (bodyPost P fn R) k (.panic chain) _ w''
          rw [Kon.wp_panic]
          exact ⟨rfl, hq⟩
        | outgrown =>
          refine ⟨⟨#[], []⟩, w'', ?_⟩
          show Kon.wp P (bodyPost P fn R) k .outgrown _ w''
          rw [Kon.wp_outgrown]
          exact hq)
      refine Code.wp_mono ?_ this
      intro e a w hq
      cases e <;> exact hq
end Go.Proofs.YtkgihpebghmnbaaGreatDoor
