/-
  OWN WORK. How many new edges a node has: plain.
-/
import Derived.Test.Qxb6001307aRelI
namespace Go.Proofs.Qxb6001307a
set_option linter.unusedSimpArgs false
set_option linter.unusedVariables false

theorem cntU_ext {fr : Int → Int} {u : Int} {j k : Int} (h0 : 0 ≤ j) (h : j ≤ k) (hne : ∀ a, j ≤ a → a < k → fr a ≠ u) : cntU fr u k = cntU fr u j := by
  obtain ⟨d, rfl⟩ : ∃ d : Nat, k = j + d := ⟨(k - j).toNat, by omega⟩
  clear h
  induction d with
  | zero => simp
  | succ d ih =>
    rw [show j + ((d + 1 : Nat) : Int) = j + d + 1 from by omega, cntU_no (by omega) (hne (j + d) (by omega) (by omega))]
    exact ih fun a a0 a1 => hne a a0 (by omega)
/-- Hub 'h' belongs to the tree 'ht h'. -/
theorem hub_at {hb : Int → Bool} {L2 : Int → Nat} {nt : Nat} {ht : Int → Int} (hti : HtI hb L2 nt 0 ht) {h : Int} (h0 : 0 ≤ h) (h1 : h < hu hb L2 nt) : 0 ≤ ht h ∧ ht h < (nt : Int) ∧ 0 ≤ thF hb L2 (ht h) ∧ thF hb L2 (ht h) ≤ h ∧ h < thF hb L2 (ht h) + (2 * ((L2 (ht h) : Nat) : Int) - 1) := by
  obtain ⟨t, t0, t1, a, b, c⟩ := hub_tree hb L2 nt h0 h1
  have he := hti t (h - thF hb L2 t) t0 (by omega) a (by omega) (.inl t1)
  rw [show thF hb L2 t + (h - thF hb L2 t) = h from by omega] at he
  rw [he]
  exact ⟨t0, t1, a, b, c⟩
/-- The list of hub 'h', if it is a leaf's. -/
def lfL (hb : Int → Bool) (L2 : Int → Nat) (Z2 : Int → Int → Int) (ht : Int → Int) (h : Int) : Int :=
  if h - thF hb L2 (ht h) + 1 < ((L2 (ht h) : Nat) : Int) then -1 else Z2 (ht h) (h - thF hb L2 (ht h) + 1 - ((L2 (ht h) : Nat) : Int))

section
variable {nl ns nt nf no n T m M M2 : Nat} {f o cl lf lt sr sl ss fr to rf ro rc ht : Int → Int} {L1 L2 : Int → Nat} {Z1 Z2 : Int → Int → Int} {hb ow : Int → Bool} {tx : Int}
theorem RA.cntM (h : RA nl ns nt nf no n T m M M2 f o cl lf lt sr sl ss fr to rf ro rc L1 L2 Z1 Z2 hb ow tx) {u : Int} (u1 : u < (n : Int)) : cntU fr u M = cntU fr u M2 :=
  cntU_ext (by omega) h.lk.M2M fun a a0 a1 e => by have := (h.lk.rl a a0 a1).1; omega
theorem RA.cntS (h : RA nl ns nt nf no n T m M M2 f o cl lf lt sr sl ss fr to rf ro rc L1 L2 Z1 Z2 hb ow tx) (u : Int) : cntU fr u ns = cntU sr u ns :=
  cntU_congr u fun i i0 i1 => (h.lk.base.sp i i0 i1).1
/-- Which hub a link leaves from. -/
theorem RA.hubL (h : RA nl ns nt nf no n T m M M2 f o cl lf lt sr sl ss fr to rf ro rc L1 L2 Z1 Z2 hb ow tx) (hti : HtI hb L2 nt 0 ht) {a : Int} (a0 : (ns : Int) ≤ a) (a1 : a < (M2 : Int)) : tx ≤ fr a ∧ ((L2 (ht (fr a - tx)) : Nat) : Int) ≤ fr a - tx - thF hb L2 (ht (fr a - tx)) + 1 ∧ to a = (n : Int) + rel lf lt L1 (lfL hb L2 Z2 ht (fr a - tx)) := by
  obtain ⟨s, q, ⟨s0, q0, hB⟩, hs, hq, hf, ht9⟩ := h.lk.base.hub a a0 a1
  have hL := (thF_pos s0 hs).2.2.1
  have he := hti s ((L2 s : Nat) + q - 1) s0 (by omega) hs (by omega) (.inl (by omega))
  have e1 : fr a - tx = thF hb L2 s + ((L2 s : Nat) + q - 1) := by omega
  rw [e1, he]
  refine ⟨by omega, by omega, ?_⟩
  rw [ht9]
  unfold lfL
  rw [he, if_neg (by omega)]
  congr 2
  congr 1
  omega
theorem RA.count (h : RA nl ns nt nf no n T m M M2 f o cl lf lt sr sl ss fr to rf ro rc L1 L2 Z1 Z2 hb ow tx) (hti : HtI hb L2 nt 0 ht) {u : Int} (u0 : 0 ≤ u) (u1 : u < (n : Int)) : cntU fr u M = cntU sr u ns + (if tx ≤ u ∧ 0 ≤ lfL hb L2 Z2 ht (u - tx) then 1 else 0) := by
  rw [h.cntM u1, ← h.cntS u]
  have hM2 := h.lk.base.nsM
  by_cases c : tx ≤ u
  · have hetx := h.etx
    obtain ⟨t0, t1, p1, p2, p3⟩ := hub_at hti (h := u - tx) (by omega) (by omega)
    generalize hte : ht (u - tx) = t at t0 t1 p1 p2 p3
    by_cases k : u - tx - thF hb L2 t + 1 < ((L2 t : Nat) : Int)
    · rw [if_neg (by unfold lfL; rw [hte, if_pos k]; omega), Int.add_zero]
      refine cntU_ext (by omega) hM2 fun a a0 a1 e => ?_
      have h9 := (h.hubL hti a0 a1).2.1
      rw [e, hte] at h9
      omega
    · have hB : Bef L2 nt 0 t (u - tx - thF hb L2 t + 1 - ((L2 t : Nat) : Int)) := ⟨t0, by omega, .inl ⟨t1, by omega⟩⟩
      have hz := (h.lv.rng _ _ hB).1
      rw [if_pos ⟨c, by unfold lfL; rw [hte, if_neg k]; exact hz⟩]
      obtain ⟨i, i0, i1, hf, _⟩ := h.lk.base.ex _ _ hB p1
      have hf2 : fr i = u := by omega
      have h1 : cntU fr u i = cntU fr u ns := cntU_ext (by omega) i0 fun a a0 a1 e => by
        have := h.lk.base.inc a i a0 a1 i1; omega
      have h2 := cntU_yes (fr := fr) (u := u) (k := i) (by omega) hf2
      have h3 : cntU fr u M2 = cntU fr u (i + 1) := cntU_ext (by omega) (by omega) fun a a0 a1 e => by
        have := h.lk.base.inc i a i0 (by omega) a1; omega
      omega
  · rw [if_neg (by omega), Int.add_zero]
    refine cntU_ext (by omega) hM2 fun a a0 a1 e => ?_
    have := (h.hubL hti a0 a1).1
    omega
theorem RA.cntT (h : RA nl ns nt nf no n T m M M2 f o cl lf lt sr sl ss fr to rf ro rc L1 L2 Z1 Z2 hb ow tx) {u : Int} (u1 : tx ≤ u) : cntU sr u ns = 0 :=
  cntU_none (by omega) fun a a0 a1 e => by have := h.sp.1 a a0 a1; omega
/-- The edges of a relay, told from outside. -/
theorem RA.rel2 (h : RA nl ns nt nf no n T m M M2 f o cl lf lt sr sl ss fr to rf ro rc L1 L2 Z1 Z2 hb ow tx) {x : Int} (x0 : (n : Int) ≤ x) (x1 : x < (T : Int)) : rf x + 1 ≤ rf (x + 1) ∧ rf (x + 1) ≤ rf x + 2 ∧ ∀ e, rf x ≤ e → e < rf (x + 1) → rc e = 8 ∧ (ro e < (n : Int) ↔ e = rf x) := by
  obtain ⟨l, l0, l1, y0, y1⟩ := h.list (x := x - n) (by omega) (by omega)
  have hr := h.relay l0 l1 y0 y1
  have hz := h.node l0 l1 y0 y1
  have htn := h.txn
  rw [show (n : Int) + (x - n) = x from by omega] at hr
  obtain ⟨r1, r2, r3⟩ := hr
  rcases r3 with ⟨q1, q2, q3, q4⟩ | ⟨q1, q2⟩
  · refine ⟨by omega, by omega, fun e a b => ?_⟩
    by_cases k : e = rf x
    · subst k; exact ⟨r2, ⟨fun _ => rfl, fun _ => by omega⟩⟩
    · obtain rfl : e = rf x + 1 := by omega
      exact ⟨q4, ⟨fun hlt => by omega, fun hlt => by omega⟩⟩
  · refine ⟨by omega, by omega, fun e a b => ?_⟩
    obtain rfl : e = rf x := by omega
    exact ⟨r2, ⟨fun _ => rfl, fun _ => by omega⟩⟩
end
end Go.Proofs.Qxb6001307a
