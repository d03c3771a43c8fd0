/-
  OWN WORK. No span and no hub: the adjacency is itself.
-/
import Derived.Test.Qxb6001307aRelayed
namespace Go.Proofs.Qxb6001307a
set_option linter.unusedSimpArgs false
set_option linter.unusedVariables false
theorem rel_none {lf lt : Int → Int} {L : Int → Nat} {nl : Nat} (h : ∀ l, 0 ≤ l → l < (nl : Int) → ¬ (lf l < lf (l + 1) ∨ 0 ≤ lt l)) : ∀ k, 0 ≤ k → k ≤ (nl : Int) → rel lf lt L k = 0 := by
  intro k k0 k1
  obtain ⟨d, rfl⟩ : ∃ d : Nat, k = d := ⟨k.toNat, by omega⟩
  induction d with
  | zero => rfl
  | succ d ih =>
    rw [show ((d + 1 : Nat) : Int) = (d : Int) + 1 from by omega, rel_no (by omega) (h d (by omega) (by omega))]
    exact ih (by omega) (by omega)
theorem none_rel {nl ns nt hc : Nat} {L1 L2 : Int → Nat} {Z2 : Int → Int → Int} {hb ow : Int → Bool} {lf lt sl : Int → Int} (hlv : LvI nl L1 L2 Z2 (thF hb L2) nt 0 ow lt) (hlf : ∀ l, 0 ≤ l → l ≤ (nl : Int) → LfOK ns sl l (lf l)) (hhu : hu hb L2 nt = hc) (h0s : ns = 0) (h0c : hc = 0) : ∀ k, 0 ≤ k → k ≤ (nl : Int) → rel lf lt L1 k = 0 := by
  refine rel_none fun l l0 l1 hu9 => ?_
  rcases hu9 with h | h
  · have h1 := hlf l l0 (by omega)
    have h2 := hlf (l + 1) (by omega) (by omega)
    have := h1.1; have := h1.2.1; have := h2.1; have := h2.2.1
    omega
  · rcases hlv.ltr l l0 l1 with h9 | ⟨s, i, ⟨s0, i0, hB⟩, hs, _, _⟩
    · omega
    · have e1 := thF_pos s0 hs
      have e2 := hu_mono hb L2 (j := s + 1) (k := nt) (by omega) (by omega)
      have e3 := (hu_b hb L2 s0).1
      omega
theorem none_res {nl ns nt nf no n hc T : Nat} {L1 L2 : Int → Nat} {Z1 Z2 : Int → Int → Int} {hb ow : Int → Bool} {f o cl lf lt sr sl ss : Int → Int} {tx : Int} (hadj : AdjOK nf no no f o) (hn : (n : Int) = (nf : Int) - 1) (hlv : LvI nl L1 L2 Z2 (thF hb L2) nt 0 ow lt) (hlf : ∀ l, 0 ≤ l → l ≤ (nl : Int) → LfOK ns sl l (lf l)) (hhu : hu hb L2 nt = hc) (hT : (T : Int) = (n : Int) + rel lf lt L1 nl) (hno : (no : Int) ≤ 262144) (h0s : ns = 0) (h0c : hc = 0) :
    T = n ∧ RelRes nl ns nt n T f o cl (rel lf lt L1) sr sl ss hb L2 Z1 Z2 tx ⟨0, 0, 0, 0, no, 0, 0, fun _ => 0, fun _ => 0, f, o, cl⟩ := by
  have hz := none_rel hlv hlf hhu h0s h0c
  have hTn : T = n := by have := hz nl (by omega) (by omega); omega
  refine ⟨hTn, ⟨hadj.2.1, fun u u0 u1 => ?_, fun u k _ _ _ _ => ⟨rfl, rfl⟩, fun i i0 i1 => ?_⟩, ?_, ⟨⟨?_, fun i i0 i1 => ?_, fun i i0 i1 => ?_, fun s q ⟨s0, q0, hB⟩ hs => ?_, fun i i' a b c => ?_⟩, Int.le_refl _, fun a a0 a1 => ?_, fun a a0 a1 => ?_, fun l x a b c d e => ?_, fun l x a b c d e => ?_, fun l x a b c d e => ?_⟩, fun a a0 a1 => ?_, ?_⟩
  · show f (u + 1) = f u + (dgU n f u + cntU (fun _ => 0) u ((0 : Nat) : Int))
    rw [show ((0 : Nat) : Int) = 0 from rfl, cntU_zero]
    unfold dgU
    rw [if_pos (by omega)]
    omega
  · exact absurd i1 (by show ¬ i < ((0 : Nat) : Int); omega)
  · show f T = no
    rw [hTn, hn]; exact hadj.2.2.2.1
  · show (ns : Int) ≤ ((0 : Nat) : Int)
    omega
  · omega
  · exact absurd i1 (by show ¬ i < ((0 : Nat) : Int); omega)
  · have e1 := thF_pos s0 hs
    have e2 := hu_mono hb L2 (j := s + 1) (k := nt) (by omega) (by omega)
    have e3 := (hu_b hb L2 s0).1
    omega
  · exact absurd c (by show ¬ i' < ((0 : Nat) : Int); omega)
  · exact absurd a1 (by show ¬ a < ((0 : Nat) : Int); omega)
  · exact absurd a1 (by show ¬ a < ((0 : Nat) : Int); have : ((0 : Nat) : Int) ≤ a := a0; omega)
  · have h1 := hz l a (by omega); have h2 := hz (l + 1) (by omega) (by omega); omega
  · have h1 := hz l a (by omega); have h2 := hz (l + 1) (by omega) (by omega); omega
  · have h1 := hz l a (by omega); have h2 := hz (l + 1) (by omega) (by omega); omega
  · exact absurd a1 (by show ¬ a < ((0 : Nat) : Int); omega)
  · show (no : Int) ≤ 1048576
    omega
end Go.Proofs.Qxb6001307a
