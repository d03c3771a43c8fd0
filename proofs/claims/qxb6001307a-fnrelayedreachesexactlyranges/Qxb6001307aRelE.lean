/-
  OWN WORK. Links, and the adjacency that holds them: plain.
-/
import Derived.Test.Qxb6001307aRelD
namespace Go.Proofs.Qxb6001307a
set_option linter.unusedSimpArgs false
set_option linter.unusedVariables false

/-- How many of the first 'k' links lead from 'u'. -/
def cntU (fr : Int → Int) (u k : Int) : Int := sumF (fun i => if fr i = u then 1 else 0) k.toNat
theorem cntU_zero (fr : Int → Int) (u : Int) : cntU fr u 0 = 0 := rfl
theorem cntU_yes {fr : Int → Int} {u k : Int} (h : 0 ≤ k) (he : fr k = u) : cntU fr u (k + 1) = cntU fr u k + 1 := by
  unfold cntU
  rw [show (k + 1).toNat = k.toNat + 1 from by omega, sumF, show ((k.toNat : Nat) : Int) = k from by omega]
  show _ + (if fr k = u then (1 : Int) else 0) = _
  rw [if_pos he]
theorem cntU_no {fr : Int → Int} {u k : Int} (h : 0 ≤ k) (he : fr k ≠ u) : cntU fr u (k + 1) = cntU fr u k := by
  unfold cntU
  rw [show (k + 1).toNat = k.toNat + 1 from by omega, sumF, show ((k.toNat : Nat) : Int) = k from by omega]
  show _ + (if fr k = u then (1 : Int) else 0) = _
  rw [if_neg he]
  omega
theorem cntU_b (fr : Int → Int) (u : Int) {k : Int} (h : 0 ≤ k) : 0 ≤ cntU fr u k ∧ cntU fr u k ≤ k := by
  have := sumF_bound (h := fun i => if fr i = u then 1 else 0) (lo := 0) (hi := 1) (n := k.toNat) (fun j _ _ => by constructor <;> split <;> omega)
  unfold cntU
  omega
theorem cntU_mono (fr : Int → Int) (u : Int) {j k : Int} (h0 : 0 ≤ j) (h : j ≤ k) : cntU fr u j ≤ cntU fr u k := by
  obtain ⟨d, hd⟩ : ∃ d : Nat, k = j + d := ⟨(k - j).toNat, by omega⟩
  subst hd
  clear h
  induction d with
  | zero => simp
  | succ d ih =>
    rw [show j + ((d + 1 : Nat) : Int) = (j + d) + 1 from by omega]
    by_cases e : fr (j + d) = u
    · rw [cntU_yes (by omega) e]; omega
    · rw [cntU_no (by omega) e]; exact ih
theorem cntU_congr {fr fr' : Int → Int} (u : Int) {k : Int} (h : ∀ i, 0 ≤ i → i < k → fr i = fr' i) : cntU fr u k = cntU fr' u k := by
  unfold cntU
  refine sumF_congr fun j a b => ?_
  show (if fr j = u then (1 : Int) else 0) = if fr' j = u then 1 else 0
  rw [h j a (by omega)]
/-- The links from 'u' come in order. -/
theorem cntU_find (fr : Int → Int) (u : Int) (M : Nat) {j : Int} (h0 : 0 ≤ j) (h1 : j < cntU fr u M) : ∃ i, 0 ≤ i ∧ i < (M : Int) ∧ fr i = u ∧ cntU fr u i = j := by
  induction M with
  | zero => rw [show ((0 : Nat) : Int) = 0 from rfl, cntU_zero] at h1; omega
  | succ M ih =>
    rw [show ((M + 1 : Nat) : Int) = (M : Int) + 1 from by omega] at h1
    by_cases e : fr M = u
    · rw [cntU_yes (by omega) e] at h1
      by_cases hj : j < cntU fr u M
      · obtain ⟨i, a, b, c⟩ := ih hj
        exact ⟨i, a, by omega, c⟩
      · exact ⟨M, by omega, by omega, e, by omega⟩
    · rw [cntU_no (by omega) e] at h1
      obtain ⟨i, a, b, c⟩ := ih h1
      exact ⟨i, a, by omega, c⟩
/-- Two links from 'u' stand as they came. -/
theorem cntU_lt {fr : Int → Int} {u i i' : Int} (h0 : 0 ≤ i) (h : i < i') (he : fr i = u) : cntU fr u i < cntU fr u i' := by
  have h1 := cntU_yes h0 he
  have h2 := cntU_mono fr u (j := i + 1) (k := i') (by omega) (by omega)
  omega

def dgU (n : Nat) (f : Int → Int) (u : Int) : Int := if u < (n : Int) then f (u + 1) - f u else 0
/-- The adjacency of the old edges, and behind them, node by node, the links. -/
structure CSR (n : Nat) (f o cl : Int → Int) (M : Nat) (fr to : Int → Int) (T : Nat) (rf ro rc : Int → Int) : Prop where
  r0 : rf 0 = 0
  rs : ∀ u, 0 ≤ u → u < (T : Int) → rf (u + 1) = rf u + (dgU n f u + cntU fr u M)
  old : ∀ u k, 0 ≤ u → u < (n : Int) → 0 ≤ k → k < f (u + 1) - f u → ro (rf u + k) = o (f u + k) ∧ rc (rf u + k) = cl (f u + k)
  new : ∀ i, 0 ≤ i → i < (M : Int) → ro (rf (fr i) + dgU n f (fr i) + cntU fr (fr i) i) = to i ∧ rc (rf (fr i) + dgU n f (fr i) + cntU fr (fr i) i) = 8
end Go.Proofs.Qxb6001307a
