/-
  OWN WORK. The second edge of a relay; the work list's measure.
-/
import Derived.Test.Qxb6001307aRelK
namespace Go.Proofs.Qxb6001307a
set_option linter.unusedSimpArgs false
set_option linter.unusedVariables false
section
variable {nl ns nt nf no n T m M M2 : Nat} {f o cl lf lt sr sl ss fr to rf ro rc ht : Int → Int} {L1 L2 : Int → Nat} {Z1 Z2 : Int → Int → Int} {hb ow : Int → Bool} {tx : Int}
theorem RA.rel3 (h : RA nl ns nt nf no n T m M M2 f o cl lf lt sr sl ss fr to rf ro rc L1 L2 Z1 Z2 hb ow tx) {x : Int} (x0 : (n : Int) ≤ x) (x1 : x < (T : Int)) (hx : rf x + 1 < rf (x + 1)) : ro (rf x + 1) = x + 1 ∧ rf (x + 1) = rf x + 2 ∧ x + 1 < (T : Int) := by
  obtain ⟨l, l0, l1, y0, y1⟩ := h.list (x := x - n) (by omega) (by omega)
  have hr := h.relay l0 l1 y0 y1
  rw [show (n : Int) + (x - n) = x from by omega] at hr
  have hm := rel_mono lf lt L1 (j := l + 1) (k := nl) (by omega) (by omega)
  have hT := h.hT
  rcases hr.2.2 with ⟨q1, q2, q3, q4⟩ | ⟨q1, q2⟩
  · exact ⟨q3, q2, by omega⟩
  · omega
theorem RA.nodeX (h : RA nl ns nt nf no n T m M M2 f o cl lf lt sr sl ss fr to rf ro rc L1 L2 Z1 Z2 hb ow tx) {x : Int} (x0 : (n : Int) ≤ x) (x1 : x < (T : Int)) : 0 ≤ ro (rf x) ∧ ro (rf x) < (n : Int) := by
  obtain ⟨l, l0, l1, y0, y1⟩ := h.list (x := x - n) (by omega) (by omega)
  have hr := h.relay l0 l1 y0 y1
  have hz := h.node l0 l1 y0 y1
  have ht := h.txn
  rw [show (n : Int) + (x - n) = x from by omega] at hr
  rw [hr.1]
  omega
/-- A relay in hand leads to a node that the ranges hold, and on to such a relay. -/
theorem RA.inHand (h : RA nl ns nt nf no n T m M M2 f o cl lf lt sr sl ss fr to rf ro rc L1 L2 Z1 Z2 hb ow tx) (hti : HtI hb L2 nt 0 ht) {u X ce : Int} {es : Int → Int} (u1 : u < (n : Int)) (hE : Mk n u es (PEx ns tx L1 Z1 sr sl ss (lfL hb L2 Z2 ht) u) ce) (x0 : (n : Int) ≤ X) (x1 : X < (T : Int)) (hg : Gd ns tx (rel lf lt L1) sr sl ss (lfL hb L2 Z2 ht) u (X - n)) :
    es (ro (rf X)) = u + 1 ∧ (rf X + 1 < rf (X + 1) → Gd ns tx (rel lf lt L1) sr sl ss (lfL hb L2 Z2 ht) u (X - n + 1)) := by
  have hn := h.nodeX x0 x1
  have e : (n : Int) + (X - n) = X := by omega
  refine ⟨(hE.i _ hn.1 hn.2).2 ((h.PEx_iff hti u1 _).2 ⟨X - n, hg, by rw [e]⟩), fun hx => ?_⟩
  refine h.gdn hti u1 hg ?_
  rw [e]
  exact (h.rel3 x0 x1 hx).2.1
end
end Go.Proofs.Qxb6001307a
