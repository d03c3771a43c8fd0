/-
  OWN WORK. Kit Q: calls after each of which the base is the world as it stands.
-/
import Derived.Test.Qxb6001307aZzrel
import Derived.Test.Qxb6001307aRelI
import Derived.Test.Qxb6001307aPrep
namespace Go.Proofs.Qxb6001307a
open Go.RowKit
set_option linter.unusedSimpArgs false
set_option linter.unusedVariables false
theorem RdW.mv {w w1 : World} {sv : Value} {n : Nat} {c : Int → Value} (h : RdW w sv n c) (hm : Mem (Old w) w [] w1) : RdW w1 sv n c := (h.rd (H := [])).at hm
theorem RdR.mv {w w1 : World} {a : Option Addr} {n cap : Nat} {A : Int → Option Addr} {L C : Int → Nat} {Z : Int → Int → Int} (h : RdR w a n cap A L C Z) (hm : Mem (Old w) w [] w1) : RdR w1 a n cap A L C Z := ⟨h.1.mv hm, fun i a b => (h.2 i a b).mv hm⟩
section
variable {P : Program} {N : Nat} {w0 : World} {ops : Array Oper} {Q : Exit → Act → World → Prop} {L : List (Nat × Value)}
theorem V_callO {d : Nat} {ty : TypeId} {pos : String} {af : Array Edge} {rest : List Oper} {f : FuncId} {xs : List Operand} {vs : List Value} {ats : Array TypeId} {T : Type} {Φ : T → World → Prop} {val : T → Value}
    (hf : Callable P f) (hxs : evs L xs = some vs)
    (hc : ∀ w, Mem (Old w0) w0 [] w → Calls P f vs.toArray w (fun e w' => ∃ y, Φ y w' ∧ e = .returned (val y) ∧ Mem (Old w) w [] w')) (hd : Nat.ble (d + 1) N = true)
    (h : ∀ y w1, Mem (Old w0) w0 [] w1 → Φ y w1 → V P N (Old w1) w1 ops Q rest ((d, val y) :: L) []) :
    V P N (Old w0) w0 ops Q (⟨some d, .call { callee := .value (.func f), args := xs.toArray, argTypes := ats }, ty, pos, af, none⟩ :: rest) L [] :=
  V_callR hf hxs hc hd fun y w1 hm hy => by rw [Rest_nil]; exact h y w1 hm hy
end
theorem clone10R (w : World) (a0 : Option Addr) (n cap : Nat) (f : Int → Int) (hr : RdW w (.slice a0 n cap) n (ints .i32 f)) (hn : (n : Int) ≤ 1048576) :
    Calls Try.prog 10 #[.slice a0 n cap] w fun e w' => ∃ y : Option Addr, RdW w' (.slice y n n) n (ints .i32 f) ∧ e = .returned (.slice y n n) ∧ Mem (Old w) w [] w' :=
  (clone10 w a0 n cap f hr hn).mono fun e w' ⟨y, h1, he, hM⟩ => ⟨y.2, (Rd_sl (q := 0) rfl h1 (Int.le_refl _)).at hM, he, hM.sub trivial⟩
theorem clone11R (w : World) (a0 : Option Addr) (n cap : Nat) (f : Int → Int) (hr : RdW w (.slice a0 n cap) n (ints .u8 f)) (hn : (n : Int) ≤ 1048576) :
    Calls Try.prog 11 #[.slice a0 n cap] w fun e w' => ∃ y : Option Addr, RdW w' (.slice y n n) n (ints .u8 f) ∧ e = .returned (.slice y n n) ∧ Mem (Old w) w [] w' :=
  (clone11 w a0 n cap f hr hn).mono fun e w' ⟨y, h1, he, hM⟩ => ⟨y.2, (Rd_sl (q := 0) rfl h1 (Int.le_refl _)).at hM, he, hM.sub trivial⟩
theorem clone16R (w : World) (a0 : Option Addr) (n cap : Nat) (f : Int → Bool) (hr : RdW w (.slice a0 n cap) n (bools f)) (hn : (n : Int) ≤ 1048576) :
    Calls Try.prog 16 #[.slice a0 n cap] w fun e w' => ∃ y : Option Addr, RdW w' (.slice y n n) n (bools f) ∧ e = .returned (.slice y n n) ∧ Mem (Old w) w [] w' :=
  (clone16 w a0 n cap f hr hn).mono fun e w' ⟨y, h1, he, hM⟩ => ⟨y.2, (Rd_sl (q := 0) rfl h1 (Int.le_refl _)).at hM, he, hM.sub trivial⟩
theorem tot_le (L : Int → Nat) (n : Nat) {i : Int} (h0 : 0 ≤ i) (h1 : i < (n : Int)) : ((L i : Nat) : Int) ≤ tot L n := by
  have h2 := tot_succ L h0
  have h3 := tot_nonneg L i
  have h4 := tot_mono L (j := i + 1) (k := n) (by omega) (by omega)
  omega
end Go.Proofs.Qxb6001307a
