/-
  OWN WORK. Kit J: the base of what is said of memory moves: what lies there now is foreign from here on.
-/
import Derived.Test.Qxb6001236aKitI
namespace Go.Proofs.Qxb6001236a
open Go.RowKit
set_option linter.unusedSimpArgs false
set_option linter.unusedVariables false

/-- The elements of a slice, each in a block that is foreign here. -/
def RdB (B : Nat → Prop) (w : World) (sv : Value) (n : Nat) (c : Int → Value) : Prop :=
  ∃ a cap, sv = .slice a n cap ∧ ∀ i : Int, 0 ≤ i → i < (n : Int) → ∃ x : Addr, a = some x ∧ w.cell? (x.add i.toNat) = some (c i) ∧ B (x.add i.toNat).block

theorem cell_same {w w' : World} {x : Addr} (h : w'.heap[x.block]? = w.heap[x.block]?) : w'.cell? x = w.cell? x := by
  unfold World.cell?
  rw [h]
theorem cell_lt {w : World} {x : Addr} {v : Value} (h : w.cell? x = some v) : x.block < w.heap.size := by
  rcases Nat.lt_or_ge x.block w.heap.size with hh | hh
  · exact hh
  · unfold World.cell? at h
    rw [Array.getElem?_eq_none hh] at h
    simp at h

theorem RdB.rd {B : Nat → Prop} {w0 : World} {H : List (Nat × Bk)} {sv : Value} {n : Nat} {c : Int → Value} (h : RdB B w0 sv n c) : Rd B w0 H sv n c := by
  obtain ⟨a, cap, rfl, hc⟩ := h
  refine ⟨a, cap, rfl, fun i h0 h1 => ?_⟩
  obtain ⟨x, hx, hcell, hb⟩ := hc i h0 h1
  exact ⟨x, hx, fun w' hm => by rw [cell_same (hm.block _ hb).2]; exact hcell⟩
theorem RdB.rdw {B : Nat → Prop} {w : World} {sv : Value} {n : Nat} {c : Int → Value} (h : RdB B w sv n c) : RdW w sv n c := by
  obtain ⟨a, cap, rfl, hc⟩ := h
  exact ⟨a, cap, rfl, fun i h0 h1 => by obtain ⟨x, hx, hcell, _⟩ := hc i h0 h1; exact ⟨x, hx, hcell⟩⟩
theorem RdW.rdb {w : World} {sv : Value} {n : Nat} {c : Int → Value} (h : RdW w sv n c) : RdB (Old w) w sv n c := by
  obtain ⟨a, cap, rfl, hc⟩ := h
  exact ⟨a, cap, rfl, fun i h0 h1 => by obtain ⟨x, hx, hcell⟩ := hc i h0 h1; exact ⟨x, hx, hcell, cell_lt hcell⟩⟩
/-- .. and stays so when the base moves. -/
theorem RdB.move {B : Nat → Prop} {w0 w1 : World} {H H1 : List (Nat × Bk)} {sv : Value} {n : Nat} {c : Int → Value} (h : RdB B w0 sv n c) (hm : Mem B w0 H w1) (hs : ∀ q k, lkH H1 q = some k → lkH H q = some k) : RdB (Rest w1 H1) w1 sv n c := by
  obtain ⟨a, cap, rfl, hc⟩ := h
  refine ⟨a, cap, rfl, fun i h0 h1 => ?_⟩
  obtain ⟨x, hx, hcell, hb⟩ := hc i h0 h1
  have h2 := hm.block _ hb
  have h3 : w1.cell? (x.add i.toNat) = some (c i) := by rw [cell_same h2.2]; exact hcell
  exact ⟨x, hx, h3, cell_lt h3, fun q k hq hp e => (hm.ok q k (hs q k hq)).2 hp (e ▸ hb)⟩
/-- An own block, from here on foreign. -/
theorem Mem.give {B : Nat → Prop} {w0 w1 : World} {H H1 : List (Nat × Bk)} (hm : Mem B w0 H w1) {q b sz : Nat} {kn : Int} {c : Int → Value} (hq : lkH H q = some ⟨b, sz, kn, c⟩) (hs : ∀ q k, lkH H1 q = some k → lkH H q = some k) (hn : lkH H1 q = Option.none) {a : Option Addr} {n cap : Nat} (ha : 0 < n → a = some ⟨b, 0, Option.none⟩) (hl : (n : Int) ≤ kn) : RdB (Rest w1 H1) w1 (.slice a n cap) n c := by
  refine ⟨a, cap, rfl, fun i h0 h1 => ⟨⟨b, 0, Option.none⟩, ha (by omega), ?_, ?_⟩⟩
  · have := cell_own hm hq h0 (show i < kn by omega)
    rw [Addr.add_lit, Nat.zero_add]
    exact this
  · have hkn : kn ≤ (sz : Int) := (hm.ok q _ hq).1.1
    have hp : 0 < sz := by omega
    rw [Addr.add_lit]
    refine ⟨(hm.ok q _ hq).1.lt hp, fun q2 k2 hq2 hp2 => ?_⟩
    have hne : q ≠ q2 := fun e => by subst e; rw [hn] at hq2; cases hq2
    exact hm.apart q q2 _ k2 hq (hs q2 k2 hq2) hne hp hp2

section
variable {P : Program} {N : Nat} {B : Nat → Prop} {w0 : World} {ops : Array Oper} {Q : Exit → Act → World → Prop} {L : List (Nat × Value)} {H : List (Nat × Bk)}
theorem C_rebase {code : Code} {H1 : List (Nat × Bk)} (hs : SubH H1 H) (h : ∀ w1, Mem B w0 H w1 → C P N (Rest w1 H1) w1 code Q L H1) : C P N B w0 code Q L H :=
  ⟨fun a w hf hm => (h w hm).run a w hf (hm.lend fun _ _ hq => hs.look hq)⟩
theorem V_rebase {rest : List Oper} {H1 : List (Nat × Bk)} (hs : SubH H1 H) (h : ∀ w1, Mem B w0 H w1 → V P N (Rest w1 H1) w1 ops Q rest L H1) : V P N B w0 ops Q rest L H :=
  ⟨fun a w hf hm => (h w hm).run a w hf (hm.lend fun _ _ hq => hs.look hq)⟩
theorem X_rebase {R : Act → World → Prop} {H1 : List (Nat × Bk)} (hs : SubH H1 H) (h : ∀ w1, Mem B w0 H w1 → X N (Rest w1 H1) w1 R L H1) : X N B w0 R L H :=
  ⟨fun a w hf hm => (h w hm).run a w hf (hm.lend fun _ _ hq => hs.look hq)⟩

/-- A call that leaves all as it was and tells of what it made. -/
theorem V_callR {d : Nat} {ty : TypeId} {pos : String} {af : Array Edge} {rest : List Oper} {f : FuncId} {xs : List Operand} {vs : List Value} {ats : Array TypeId} {T : Type} {Φ : T → World → Prop} {val : T → Value}
    (hf : Callable P f) (hxs : evs L xs = some vs)
    (hc : ∀ w, Mem B w0 H w → Calls P f vs.toArray w (fun e w' => ∃ y, Φ y w' ∧ e = .returned (val y) ∧ Mem (Old w) w [] w')) (hd : Nat.ble (d + 1) N = true)
    (h : ∀ y w1, Mem B w0 H w1 → Φ y w1 → V P N (Rest w1 H) w1 ops Q rest ((d, val y) :: L) H) :
    V P N B w0 ops Q (⟨some d, .call { callee := .value (.func f), args := xs.toArray, argTypes := ats }, ty, pos, af, none⟩ :: rest) L H :=
  ⟨fun a w hfr hm => wpList_plain rfl fun K hK => by
    obtain ⟨fn, h1, h2, h3⟩ := hf
    have ha := evs_eval hfr xs vs hxs
    have hrun : (execOp a.eval ⟨some d, .call { callee := .value (.func f), args := xs.toArray, argTypes := ats }, ty, pos, af, none⟩).run P w = .ok (.enter f vs.toArray) w := by
      have hb : ¬ fn.body = none := fun e => by rw [e] at h3; simp at h3
      have hn : ¬ fn.name = "runtime.NumGoroutine" := fun e => by rw [e] at h2; simp at h2
      simp [execOp, resolve, Deferred.ofValue, Act.eval, invoke, callFunc, program, Sem.run, h1, hb, hn, ← ha]
    unfold Oper.wp
    rw [hrun]
    refine (hc w hm).mono fun e w' ⟨y, hy, he, hM⟩ => ?_
    subst he
    have hm1 := hm.join0 hM
    exact hK _ _ ((h y w' hm1 hy).run _ _ (hfr.put hd _) (hm1.lend fun _ _ hq => hq))⟩

def JB {T : Type} (I : T → Prop) (Lx : T → List (Nat × Value)) (Hx : T → List (Nat × Bk)) (Bx : T → Nat → Prop) (wx : T → World) (μ : T → Nat) (N : Nat) (a : Act) (w : World) (n : Nat) : Prop :=
  ∃ x, I x ∧ μ x = n ∧ Fr N (Lx x) a ∧ Mem (Bx x) (wx x) (Hx x) w
def AgainB {T : Type} (I : T → Prop) (Lx : T → List (Nat × Value)) (Hx : T → List (Nat × Bk)) (Bx : T → Nat → Prop) (wx : T → World) (μ : T → Nat) (N : Nat) (m : Nat) : Act → World → Prop :=
  fun a w => ∃ x', I x' ∧ μ x' < m ∧ Fr N (Lx x') a ∧ Mem (Bx x') (wx x') (Hx x') w
/-- A loop whose base moves. -/
theorem C_loopsB {body : Code} {T : Type} (Lx : T → List (Nat × Value)) (Hx : T → List (Nat × Bk)) (Bx : T → Nat → Prop) (wx : T → World) (I : T → Prop) (μ : T → Nat) (x0 : T) (h0 : I x0) (hB : Bx x0 = B) (hw : wx x0 = w0)
    (hL : SubL (Lx x0) L) (hH : SubH (Hx x0) H)
    (round : ∀ x, I x → C P N (Bx x) (wx x) body (Exit.then (AgainB I Lx Hx Bx wx μ N (μ x)) Q) (Lx x) (Hx x)) :
    C P N B w0 (.loop body) Q L H := by
  subst hB; subst hw
  refine ⟨fun a w hf hm => ?_⟩
  have key : ∀ p : Act × World, ∃ m : Nat, (∃ n, JB I Lx Hx Bx wx μ N p.1 p.2 n) → (JB I Lx Hx Bx wx μ N p.1 p.2 m ∧ ∀ n, JB I Lx Hx Bx wx μ N p.1 p.2 n → m ≤ n) := by
    intro p
    by_cases hp : ∃ n, JB I Lx Hx Bx wx μ N p.1 p.2 n
    · obtain ⟨n, hn⟩ := hp
      obtain ⟨m, h1, h2⟩ := least _ n hn
      exact ⟨m, fun _ => ⟨h1, h2⟩⟩
    · exact ⟨0, fun h => absurd h hp⟩
  obtain ⟨m, hmin⟩ := Classical.skolem.1 key
  refine wp_loop (fun a w => ∃ n, JB I Lx Hx Bx wx μ N a w n) (fun a w => m (a, w)) ⟨_, x0, h0, rfl, hf.sub hL, hm.sub hH⟩ fun a' w' hJ => ?_
  obtain ⟨⟨x, hI, hμ, hF, hM⟩, _⟩ := hmin (a', w') hJ
  refine wp_mono ((round x hI).run a' w' hF hM) fun e a2 w2 hq => ?_
  cases e with
  | normal =>
    obtain ⟨x', hI', hlt, hF', hM'⟩ := hq
    have hJ2 : JB I Lx Hx Bx wx μ N a2 w2 (μ x') := ⟨x', hI', rfl, hF', hM'⟩
    refine ⟨⟨_, hJ2⟩, ?_⟩
    have h1 : m (a2, w2) ≤ μ x' := (hmin (a2, w2) ⟨_, hJ2⟩).2 _ hJ2
    have h2 : μ x = m (a', w') := hμ
    show m (a2, w2) < m (a', w')
    omega
  | exit id => exact hq
  | goto l => exact hq
  | ret => exact hq
  | panic c => exact hq
  | outgrown => exact hq
theorem X_roundB {T : Type} {Lx : T → List (Nat × Value)} {Hx : T → List (Nat × Bk)} {Bx : T → Nat → Prop} {wx : T → World} {I : T → Prop} {μ : T → Nat} {m : Nat} (x' : T) (hB : Bx x' = B) (hw : wx x' = w0) (hI : I x') (hμ : μ x' < m) (hL : SubL (Lx x') L) (hH : SubH (Hx x') H) :
    X N B w0 (AgainB I Lx Hx Bx wx μ N m) L H := by
  subst hB; subst hw
  exact ⟨fun a w hf hm => ⟨x', hI, hμ, hf.sub hL, hm.sub hH⟩⟩
end
/-- Two stretches, one behind the other. -/
theorem Mem.chain {B : Nat → Prop} {w0 w1 w2 : World} {H H2 : List (Nat × Bk)} (h : Mem B w0 H w1) (hkeys : ∀ q, lkH H2 q = Option.none → lkH H q = Option.none) (h2 : Mem (Rest w1 H) w1 H2 w2) : Mem B w0 H2 w2 :=
  (h.back (fun _ _ hq => hq) hkeys h2).weak fun q k hq => by
    rcases hc : lkH H2 q with _ | k2
    · rw [hc] at hq; cases hq
    · rw [hc] at hq
      obtain rfl := Option.some.inj hq
      have : ∀ (X Y : List (Nat × Bk)), lkH X q = some k2 → lkH (X ++ Y) q = some k2 := by
        intro X Y hX
        induction X with
        | nil => simp [lkH] at hX
        | cons p r ih =>
          obtain ⟨t, u⟩ := p
          rw [List.cons_append, lkH_cons]
          rw [lkH_cons] at hX
          split
          · rename_i e; rw [if_pos e] at hX; exact hX
          · rename_i e; rw [if_neg e] at hX; exact ih hX
      exact this H2 H hc
theorem Mem.chain0 {w0 w1 w2 : World} {H : List (Nat × Bk)} (h : Mem (Old w0) w0 [] w1) (h2 : Mem (Rest w1 []) w1 H w2) : Mem (Old w0) w0 H w2 :=
  h.chain (fun q _ => rfl) h2
end Go.Proofs.Qxb6001236a
