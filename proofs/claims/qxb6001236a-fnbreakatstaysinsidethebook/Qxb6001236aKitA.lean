/-
  OWN WORK. A small program logic over the library's 'Code.wp': the frame is known by a list of slots, the memory that the call itself made by a list of blocks.
  Kit A: frames, blocks, code.
-/
import Derived.Test.Qxb6001236aRows
import Derived.WalkKit
import Derived.ProofKit
import Derived.Still
import Derived.Orders
import Derived.Below
namespace Go.Proofs.Qxb6001236a
open Go.RowKit
set_option linter.unusedSimpArgs false
set_option linter.unusedVariables false

/-! ### What is known of a frame -/
def lk : List (Nat × Value) → Nat → Option Value
  | [], _ => none
  | (k, v) :: r, t => bif Nat.beq k t then some v else lk r t

def ev (L : List (Nat × Value)) : Operand → Option Value
  | .tmp t => lk L t
  | .const v => some v
  | .global g => some (.pointer (some ⟨g, 0, none⟩))
  | .func f => some (.func (.func f) #[] #[])

structure Fr (N : Nat) (L : List (Nat × Value)) (a : Act) : Prop where
  size : a.tmps.size = N
  get : ∀ t v, lk L t = some v → a.tmps[t]? = some v
  defers : a.defers = []

theorem Fr.eval {N : Nat} {L : List (Nat × Value)} {a : Act} (h : Fr N L a) {x : Operand} {v : Value} (hx : ev L x = some v) : a.eval x = v := by
  cases x with
  | tmp t =>
    have := h.get t v hx
    simp [Act.eval, this]
  | const u => simpa [ev, Act.eval] using hx
  | global g => simpa [ev, Act.eval] using hx
  | func f => simpa [ev, Act.eval] using hx

theorem Fr.put {N : Nat} {L : List (Nat × Value)} {a : Act} (h : Fr N L a) {d : Nat} (hd : Nat.ble (d + 1) N = true) (v : Value) : Fr N ((d, v) :: L) (a.put (some d) v) := by
  have hd' : d < N := Nat.le_of_ble_eq_true hd
  refine ⟨by simp [Act.put, h.size], fun t u ht => ?_, h.defers⟩
  simp only [lk] at ht
  cases hb : Nat.beq d t with
  | true =>
    have e : d = t := Nat.eq_of_beq_eq_true hb
    subst e
    simp [hb] at ht
    subst ht
    have hs := h.size
    simp [Act.put, hs, hd']
  | false =>
    have e : d ≠ t := fun e => by subst e; simp at hb
    simp [hb] at ht
    simp [Act.put, Array.getElem?_setIfInBounds_ne e, h.get t u ht]

def SubL : List (Nat × Value) → List (Nat × Value) → Prop
  | [], _ => True
  | (t, v) :: r, L => lk L t = some v ∧ SubL r L

theorem SubL.look {L' L : List (Nat × Value)} (h : SubL L' L) {t : Nat} {v : Value} (ht : lk L' t = some v) : lk L t = some v := by
  induction L' with
  | nil => simp [lk] at ht
  | cons p r ih =>
    obtain ⟨k, u⟩ := p
    simp only [lk] at ht
    cases hb : Nat.beq k t with
    | true =>
      have e : k = t := Nat.eq_of_beq_eq_true hb
      subst e
      simp [hb] at ht
      subst ht
      exact h.1
    | false => simp [hb] at ht; exact ih h.2 ht

theorem Fr.sub {N : Nat} {L L' : List (Nat × Value)} {a : Act} (hs : SubL L' L) (h : Fr N L a) : Fr N L' a :=
  ⟨h.size, fun t v ht => h.get t v (hs.look ht), h.defers⟩

theorem SubL.refl' (L : List (Nat × Value)) : ∀ t v, lk L t = some v → lk L t = some v := fun _ _ h => h

/-! ### What is known of memory -/
structure Bk where
  b : Nat
  size : Nat
  n : Int
  c : Int → Value

def Bk.ok (k : Bk) (w : World) : Prop :=
  k.n ≤ (k.size : Int) ∧ (0 < k.size → ∃ arr ty, w.heap[k.b]? = some (.cells arr ty (0, 0)) ∧ arr.size = k.size ∧ ∀ i : Int, 0 ≤ i → i < k.n → arr[i.toNat]? = some (k.c i))

def lkH : List (Nat × Bk) → Nat → Option Bk
  | [], _ => none
  | (k, v) :: r, t => bif Nat.beq k t then some v else lkH r t

/-- The blocks that lie in a world. -/
def Old (w : World) : Nat → Prop := fun k => k < w.heap.size

/-- The blocks of 'B' are as they were in 'w0'; what is listed lies elsewhere, each in a block of its own. -/
structure Mem (B : Nat → Prop) (w0 : World) (H : List (Nat × Bk)) (w : World) : Prop where
  os : w.os = w0.os
  tape : w.tape = w0.tape
  output : w.output = w0.output
  size : w0.heap.size ≤ w.heap.size
  block : ∀ k, B k → k < w0.heap.size ∧ w.heap[k]? = w0.heap[k]?
  ok : ∀ q k, lkH H q = some k → k.ok w ∧ (0 < k.size → ¬ B k.b)
  apart : ∀ q q' k k', lkH H q = some k → lkH H q' = some k' → q ≠ q' → 0 < k.size → 0 < k'.size → k.b ≠ k'.b

theorem Mem.below {w0 w : World} {H : List (Nat × Bk)} (h : Mem (Old w0) w0 H w) : Below w0.heap.size w0 w :=
  ⟨h.os, h.tape, h.output, h.size, fun k hk => (h.block k hk).2⟩

def SubH : List (Nat × Bk) → List (Nat × Bk) → Prop
  | [], _ => True
  | (t, v) :: r, H => lkH H t = some v ∧ SubH r H

theorem SubH.look {L' L : List (Nat × Bk)} (h : SubH L' L) {t : Nat} {v : Bk} (ht : lkH L' t = some v) : lkH L t = some v := by
  induction L' with
  | nil => simp [lkH] at ht
  | cons p r ih =>
    obtain ⟨k, u⟩ := p
    simp only [lkH] at ht
    cases hb : Nat.beq k t with
    | true =>
      have e : k = t := Nat.eq_of_beq_eq_true hb
      subst e
      simp [hb] at ht
      subst ht
      exact h.1
    | false => simp [hb] at ht; exact ih h.2 ht

theorem Mem.weak {B : Nat → Prop} {w0 w : World} {H H' : List (Nat × Bk)} (hs : ∀ q k, lkH H' q = some k → lkH H q = some k) (h : Mem B w0 H w) : Mem B w0 H' w :=
  ⟨h.os, h.tape, h.output, h.size, h.block, fun q k hq => h.ok q k (hs q k hq), fun q q' k k' hq hq' => h.apart q q' k k' (hs q k hq) (hs q' k' hq')⟩

theorem Mem.sub {B : Nat → Prop} {w0 w : World} {H H' : List (Nat × Bk)} (hs : SubH H' H) (h : Mem B w0 H w) : Mem B w0 H' w :=
  h.weak fun _ _ hq => hs.look hq

theorem lkH_cons {q t : Nat} {k : Bk} {H : List (Nat × Bk)} : lkH ((q, k) :: H) t = if q = t then some k else lkH H t := by
  simp only [lkH]
  by_cases e : q = t
  · subst e; simp
  · have : Nat.beq q t = false := by
      cases hb : Nat.beq q t with
      | true => exact absurd (Nat.eq_of_beq_eq_true hb) e
      | false => rfl
    simp [this, e]

/-- A world with the same heap, the same tape and streams. -/
theorem Mem.drawn {B : Nat → Prop} {w0 w : World} {H : List (Nat × Bk)} (h : Mem B w0 H w) (n : Nat) : Mem B w0 H { w with drawn := n } :=
  ⟨h.os, h.tape, h.output, h.size, h.block, h.ok, h.apart⟩

theorem Bk.ok.lt {k : Bk} {w : World} (h : k.ok w) (hp : 0 < k.size) : k.b < w.heap.size := by
  obtain ⟨a, t, ha, _⟩ := h.2 hp
  exact (Array.getElem?_eq_some_iff.1 ha).1
/-- What is said of a block stands where that block has not turned. -/
theorem Bk.ok.same {k : Bk} {w w' : World} (h : k.ok w) (hs : 0 < k.size → w'.heap[k.b]? = w.heap[k.b]?) : k.ok w' := by
  refine ⟨h.1, fun hp => ?_⟩
  obtain ⟨a, t, ha, hr⟩ := h.2 hp
  exact ⟨a, t, by rw [hs hp]; exact ha, hr⟩

/-- A new block. -/
theorem Mem.alloc {B : Nat → Prop} {w0 w : World} {H : List (Nat × Bk)} (h : Mem B w0 H w) (q : Nat) (arr : Array Value) (ty : TypeId) (n : Int) (c : Int → Value)
    (hn : n ≤ (arr.size : Int)) (hc : ∀ i : Int, 0 ≤ i → i < n → arr[i.toNat]? = some (c i)) :
    Mem B w0 ((q, ⟨w.heap.size, arr.size, n, c⟩) :: H) { w with heap := w.heap.push (.cells arr ty) } := by
  have hpush : ∀ j, j < w.heap.size → (w.heap.push (.cells arr ty))[j]? = w.heap[j]? := fun j hj => by rw [Array.getElem?_push, if_neg (by omega)]
  have hnew : ¬ B w.heap.size := fun hb => by have := (h.block _ hb).1; have := h.size; omega
  refine ⟨h.os, h.tape, h.output, by have := h.size; simp; omega, fun k hk => ?_, fun r k hr => ?_, fun r r' k k' hr hr' hne hp hp' => ?_⟩
  · have hk1 := h.block k hk
    exact ⟨hk1.1, by rw [← hk1.2]; exact hpush k (by have := h.size; omega)⟩
  · rw [lkH_cons] at hr
    split at hr
    · obtain rfl := Option.some.inj hr
      exact ⟨⟨hn, fun _ => ⟨arr, ty, by simp, rfl, hc⟩⟩, fun _ => hnew⟩
    · have hk := h.ok r k hr
      exact ⟨hk.1.same fun hp => hpush _ (hk.1.lt hp), hk.2⟩
  · rw [lkH_cons] at hr hr'
    split at hr
    · split at hr'
      · omega
      · obtain rfl := Option.some.inj hr
        have := (h.ok r' k' hr').1.lt hp'
        show w.heap.size ≠ _
        omega
    · split at hr'
      · obtain rfl := Option.some.inj hr'
        have := (h.ok r k hr).1.lt hp
        show _ ≠ w.heap.size
        omega
      · exact h.apart r r' k k' hr hr' hne hp hp'

/-- A block of the call's own, changed: what is said of the others stands. -/
theorem Mem.change {B : Nat → Prop} {w0 w w' : World} {H : List (Nat × Bk)} (h : Mem B w0 H w) {q : Nat} {k k1 : Bk} (hq : lkH H q = some k) (hp : 0 < k.size)
    (hb : k1.b = k.b) (hok : k1.ok w') (hos : w'.os = w.os) (htape : w'.tape = w.tape) (hout : w'.output = w.output) (hsz : w.heap.size ≤ w'.heap.size)
    (hoth : ∀ j, j ≠ k.b → j < w.heap.size → w'.heap[j]? = w.heap[j]?) : Mem B w0 ((q, k1) :: H) w' := by
  have hB := (h.ok q k hq).2 hp
  refine ⟨hos.trans h.os, htape.trans h.tape, hout.trans h.output, Nat.le_trans h.size hsz, fun j hj => ?_, fun r m hr => ?_, fun r r' m m' hr hr' hne hpm hpm' => ?_⟩
  · have h1 := h.block j hj
    exact ⟨h1.1, by rw [hoth j (fun e => hB (e ▸ hj)) (by have := h.size; omega)]; exact h1.2⟩
  · rw [lkH_cons] at hr
    split at hr
    · obtain rfl := Option.some.inj hr
      exact ⟨hok, fun _ => by rw [hb]; exact hB⟩
    · rename_i hqr
      have hm := h.ok r m hr
      exact ⟨hm.1.same fun hpm => hoth m.b (fun e => h.apart q r k m hq hr hqr hp hpm e.symm) (hm.1.lt hpm), hm.2⟩
  · rw [lkH_cons] at hr hr'
    split at hr
    · split at hr'
      · omega
      · obtain rfl := Option.some.inj hr
        rename_i e1 e2
        rw [hb]
        exact h.apart q r' k m' hq hr' e2 hp hpm'
    · split at hr'
      · obtain rfl := Option.some.inj hr'
        rename_i e1 e2
        rw [hb]
        exact fun e => h.apart q r k m hq hr e1 hp hpm e.symm
      · exact h.apart r r' m m' hr hr' hne hpm hpm'

/-! ### Walks -/
structure X (N : Nat) (B : Nat → Prop) (w0 : World) (R : Act → World → Prop) (L : List (Nat × Value)) (H : List (Nat × Bk)) : Prop where
  run : ∀ a w, Fr N L a → Mem B w0 H w → R a w

structure C (P : Program) (N : Nat) (B : Nat → Prop) (w0 : World) (code : Code) (Q : Exit → Act → World → Prop) (L : List (Nat × Value)) (H : List (Nat × Bk)) : Prop where
  run : ∀ a w, Fr N L a → Mem B w0 H w → code.wp P Q a w

structure V (P : Program) (N : Nat) (B : Nat → Prop) (w0 : World) (ops : Array Oper) (Q : Exit → Act → World → Prop) (rest : List Oper) (L : List (Nat × Value)) (H : List (Nat × Bk)) : Prop where
  run : ∀ a w, Fr N L a → Mem B w0 H w → wpList P ops Q rest a w

/-- An operation that yields a value and leaves the world as it is. -/
structure QY (P : Program) (N : Nat) (B : Nat → Prop) (w0 : World) (L : List (Nat × Value)) (H : List (Nat × Bk)) (op : Op) (ty : TypeId) (v : Value) : Prop where
  run : ∀ a w dst pos af g, Fr N L a → Mem B w0 H w → (execOp a.eval ⟨dst, op, ty, pos, af, g⟩).run P w = .ok (.value v) w

section
variable {P : Program} {N : Nat} {B : Nat → Prop} {w0 : World} {Q : Exit → Act → World → Prop} {L : List (Nat × Value)} {H : List (Nat × Bk)}

theorem X.sub {R : Act → World → Prop} {L' : List (Nat × Value)} {H' : List (Nat × Bk)} (hL : SubL L' L) (hH : ∀ q k, lkH H' q = some k → lkH H q = some k) (h : X N B w0 R L' H') : X N B w0 R L H :=
  ⟨fun a w hf hm => h.run a w (hf.sub hL) (hm.weak hH)⟩
theorem C.sub {code : Code} {L' : List (Nat × Value)} {H' : List (Nat × Bk)} (hL : SubL L' L) (hH : ∀ q k, lkH H' q = some k → lkH H q = some k) (h : C P N B w0 code Q L' H') : C P N B w0 code Q L H :=
  ⟨fun a w hf hm => h.run a w (hf.sub hL) (hm.weak hH)⟩

theorem C_seq {x y : Code} (h : C P N B w0 x (Exit.then (fun a w => y.wp P Q a w) Q) L H) : C P N B w0 (.seq x y) Q L H :=
  ⟨fun a w hf hm => wp_seq (h.run a w hf hm)⟩
theorem C_block {id : Nat} {c : Code} (h : C P N B w0 c (Exit.inBlock id Q) L H) : C P N B w0 (.block id c) Q L H :=
  ⟨fun a w hf hm => wp_block (h.run a w hf hm)⟩
theorem C_skip (h : X N B w0 (Q .normal) L H) : C P N B w0 .skip Q L H := ⟨fun a w hf hm => wp_skip (h.run a w hf hm)⟩
theorem C_exit {id : Nat} (h : X N B w0 (Q (.exit id)) L H) : C P N B w0 (.exit id) Q L H := ⟨fun a w hf hm => wp_exit (h.run a w hf hm)⟩
theorem C_ret (h : X N B w0 (Q .ret) L H) : C P N B w0 .ret Q L H := ⟨fun a w hf hm => wp_ret (h.run a w hf hm)⟩
theorem C_true {c : Operand} {x y : Code} (hc : ev L c = some (.bool true)) (h : C P N B w0 x Q L H) : C P N B w0 (.cond c x y) Q L H :=
  ⟨fun a w hf hm => wp_cond_true (hf.eval hc) (h.run a w hf hm)⟩
theorem C_false {c : Operand} {x y : Code} (hc : ev L c = some (.bool false)) (h : C P N B w0 y Q L H) : C P N B w0 (.cond c x y) Q L H :=
  ⟨fun a w hf hm => wp_cond_false (hf.eval hc) (h.run a w hf hm)⟩
theorem C_region {id : Nat} {l : List Oper} (h : V P N B w0 l.toArray Q l L H) : C P N B w0 (.region id l.toArray false) Q L H :=
  ⟨fun a w hf hm => wp_region_lit (h.run a w hf hm)⟩
theorem V_nil {ops : Array Oper} (h : X N B w0 (Q .normal) L H) : V P N B w0 ops Q [] L H := ⟨fun a w hf hm => h.run a w hf hm⟩

theorem X_next {y : Code} (h : C P N B w0 y Q L H) : X N B w0 (Exit.then (fun a w => y.wp P Q a w) Q .normal) L H := ⟨fun a w hf hm => h.run a w hf hm⟩
theorem X_then {K : Act → World → Prop} (h : X N B w0 K L H) : X N B w0 (Exit.then K Q .normal) L H := ⟨fun a w hf hm => h.run a w hf hm⟩
theorem X_then_ret {K : Act → World → Prop} (h : X N B w0 (Q .ret) L H) : X N B w0 (Exit.then K Q .ret) L H := ⟨fun a w hf hm => h.run a w hf hm⟩
theorem X_then_exit {K : Act → World → Prop} {id : Nat} (h : X N B w0 (Q (.exit id)) L H) : X N B w0 (Exit.then K Q (.exit id)) L H := ⟨fun a w hf hm => h.run a w hf hm⟩
theorem X_block {id : Nat} (h : X N B w0 (Q .normal) L H) : X N B w0 (Exit.inBlock id Q .normal) L H := ⟨fun a w hf hm => h.run a w hf hm⟩
theorem X_block_ret {id : Nat} (h : X N B w0 (Q .ret) L H) : X N B w0 (Exit.inBlock id Q .ret) L H := ⟨fun a w hf hm => h.run a w hf hm⟩
theorem X_block_exit {id : Nat} (h : X N B w0 (Q .normal) L H) : X N B w0 (Exit.inBlock id Q (.exit id)) L H := ⟨fun a w hf hm => by simpa [Exit.inBlock] using h.run a w hf hm⟩
theorem X_block_other {id id' : Nat} (hne : Nat.beq id' id = false) (h : X N B w0 (Q (.exit id')) L H) : X N B w0 (Exit.inBlock id Q (.exit id')) L H :=
  ⟨fun a w hf hm => by
    have : id' ≠ id := fun e => by subst e; simp at hne
    simpa [Exit.inBlock, this] using h.run a w hf hm⟩

def J {T : Type} (I : T → Prop) (Lx : T → List (Nat × Value)) (Hx : T → List (Nat × Bk)) (μ : T → Nat) (N : Nat) (B : Nat → Prop) (w0 : World) (a : Act) (w : World) (n : Nat) : Prop :=
  ∃ x, I x ∧ μ x = n ∧ Fr N (Lx x) a ∧ Mem B w0 (Hx x) w

theorem least (p : Nat → Prop) : ∀ n, p n → ∃ m, p m ∧ ∀ k, p k → m ≤ k := by
  intro n
  induction n using Nat.strongRecOn with
  | _ n ih =>
    intro hn
    by_cases h : ∃ k, k < n ∧ p k
    · obtain ⟨k, hk, hp⟩ := h
      exact ih k hk hp
    · exact ⟨n, hn, fun k hk => Nat.le_of_not_lt fun hlt => h ⟨k, hlt, hk⟩⟩

/-- The round's end. -/
def Again {T : Type} (I : T → Prop) (Lx : T → List (Nat × Value)) (Hx : T → List (Nat × Bk)) (μ : T → Nat) (N : Nat) (B : Nat → Prop) (w0 : World) (m : Nat) : Act → World → Prop :=
  fun a w => ∃ x', I x' ∧ μ x' < m ∧ Fr N (Lx x') a ∧ Mem B w0 (Hx x') w

/-- A loop: what holds at each round's head is told by ghosts; the measure too. -/
theorem C_loop {body : Code} {T : Type} (Lx : T → List (Nat × Value)) (Hx : T → List (Nat × Bk)) (I : T → Prop) (μ : T → Nat) (x0 : T) (h0 : I x0)
    (hL : SubL (Lx x0) L) (hH : ∀ q k, lkH (Hx x0) q = some k → lkH H q = some k)
    (round : ∀ x, I x → C P N B w0 body (Exit.then (Again I Lx Hx μ N B w0 (μ x)) Q) (Lx x) (Hx x)) :
    C P N B w0 (.loop body) Q L H := by
  refine ⟨fun a w hf hm => ?_⟩
  have key : ∀ p : Act × World, ∃ m : Nat, (∃ n, J I Lx Hx μ N B w0 p.1 p.2 n) → (J I Lx Hx μ N B w0 p.1 p.2 m ∧ ∀ n, J I Lx Hx μ N B w0 p.1 p.2 n → m ≤ n) := by
    intro p
    by_cases hp : ∃ n, J I Lx Hx μ N B w0 p.1 p.2 n
    · obtain ⟨n, hn⟩ := hp
      obtain ⟨m, h1, h2⟩ := least _ n hn
      exact ⟨m, fun _ => ⟨h1, h2⟩⟩
    · exact ⟨0, fun h => absurd h hp⟩
  obtain ⟨m, hmin⟩ := Classical.skolem.1 key
  refine wp_loop (fun a w => ∃ n, J I Lx Hx μ N B w0 a w n) (fun a w => m (a, w)) ⟨_, x0, h0, rfl, hf.sub hL, hm.weak hH⟩ fun a' w' hJ => ?_
  obtain ⟨⟨x, hI, hμ, hF, hM⟩, _⟩ := hmin (a', w') hJ
  refine wp_mono ((round x hI).run a' w' hF hM) fun e a2 w2 hq => ?_
  cases e with
  | normal =>
    obtain ⟨x', hI', hlt, hF', hM'⟩ := hq
    have hJ2 : J I Lx Hx μ N B w0 a2 w2 (μ x') := ⟨x', hI', rfl, hF', hM'⟩
    refine ⟨⟨_, hJ2⟩, ?_⟩
    have h1 : m (a2, w2) ≤ μ x' := (hmin (a2, w2) ⟨_, hJ2⟩).2 _ hJ2
    have h2 : μ x = m (a', w') := hμ
    show m (a2, w2) < m (a', w')
    omega
  | exit id => exact hq
  | goto l => exact hq
  | ret => exact hq
  | panic c => exact hq
  | outgrown => exact hq
end
end Go.Proofs.Qxb6001236a
