/-
  OWN WORK. Kit N: the cells of a slice of structs.
-/
import Derived.Test.Qxb6001236aKitM
namespace Go.Proofs.Qxb6001236a
open Go.RowKit
set_option linter.unusedSimpArgs false
set_option linter.unusedVariables false
theorem two_cells {c : Int → Value} {l : Int} {v0 v1 : Value} (h : 0 ≤ l) (h0 : c (2 * l) = v0) (h1 : c (2 * l + 1) = v1) : ∀ j v, [v0, v1][j]? = some v → c ((l.toNat * 2 + j : Nat) : Int) = v := by
  intro j v hj
  cases j with
  | zero => simp at hj; subst hj; rw [← h0]; congr 1; omega
  | succ j => cases j with
    | zero => simp at hj; subst hj; rw [← h1]; congr 1; omega
    | succ j => simp at hj
theorem three_cells {c : Int → Value} {l : Int} {v0 v1 v2 : Value} (h : 0 ≤ l) (h0 : c (3 * l) = v0) (h1 : c (3 * l + 1) = v1) (h2 : c (3 * l + 2) = v2) : ∀ j v, [v0, v1, v2][j]? = some v → c ((l.toNat * 3 + j : Nat) : Int) = v := by
  intro j v hj
  cases j with
  | zero => simp at hj; subst hj; rw [← h0]; congr 1; omega
  | succ j => cases j with
    | zero => simp at hj; subst hj; rw [← h1]; congr 1; omega
    | succ j => cases j with
      | zero => simp at hj; subst hj; rw [← h2]; congr 1; omega
      | succ j => simp at hj
section
variable {P : Program} {N : Nat} {B : Nat → Prop} {w0 : World} {ops : Array Oper} {Q : Exit → Act → World → Prop} {L : List (Nat × Value)} {H : List (Nat × Bk)}
/-- A struct stored whole in a variable of its own. -/
theorem V_storeV {t ty : TypeId} {pos : String} {af : Array Edge} {rest : List Oper} {p x : Operand} {q b k : Nat} {vs zs us : List Value}
    (ht : AggT P t k zs) (hq : lkH H q = some ⟨b, k, k, fl us⟩) (hp : ev L p = some (.pointer (some ⟨b, 0, none⟩))) (hx : ev L x = some (.agg vs.toArray)) (hl : vs.length = k) (h1 : ∀ v ∈ vs, v.oneCell' = true) (hk : 0 < k)
    (h : V P N B w0 ops Q rest L ((q, ⟨b, k, k, fl vs⟩) :: H)) : V P N B w0 ops Q (⟨none, .store t p x, ty, pos, af, none⟩ :: rest) L H := by
  refine V_storeA ht hq hp hx hl h1 hk (by omega) rfl ⟨fun a w hf hm => h.run a w hf ?_⟩
  have hs := hm.say (q := q) (k := ⟨b, k, k, lay (fl us) ((0 : Nat) : Int) vs⟩) (by simp [lkH_cons]) (n := k) (c := fl vs) (Int.le_refl _) (fun i i0 i1 => by
    show fl vs i = lay (fl us) ((0 : Nat) : Int) vs i
    have hlt : i.toNat < vs.length := by omega
    simp only [lay, fl]
    rw [if_pos (by omega)]
    congr 1
    omega)
  refine hs.weak fun r m hr => ?_
  rw [lkH_cons] at hr ⊢
  by_cases e : q = r
  · rw [if_pos e] at hr ⊢; exact hr
  · rw [if_neg e] at hr ⊢; rw [lkH_cons, if_neg e]; exact hr
end
end Go.Proofs.Qxb6001236a
