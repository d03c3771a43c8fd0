/-
  OWN WORK. The links that relayed lays, phase by phase: plain.
-/
import Derived.Test.Qxb6001307aRelE
namespace Go.Proofs.Qxb6001307a
set_option linter.unusedSimpArgs false
set_option linter.unusedVariables false

/-- Spans, then the hubs of the covering leaves before leaf 'j' of tree 't'. -/
structure Lk2 (ns : Nat) (n tx : Int) (hb : Int → Bool) (L2 : Int → Nat) (Z2 : Int → Int → Int) (re sr sl ss : Int → Int) (t j : Int) (M : Nat) (fr to : Int → Int) : Prop where
  nsM : (ns : Int) ≤ M
  sp : ∀ i, 0 ≤ i → i < (ns : Int) → fr i = sr i ∧ to i = n + re (sl i) + ss i
  hub : ∀ i, (ns : Int) ≤ i → i < (M : Int) → ∃ s q, Bef L2 t j s q ∧ 0 ≤ thF hb L2 s ∧ q < ((L2 s : Nat) : Int) ∧ fr i = tx + thF hb L2 s + (L2 s : Nat) + q - 1 ∧ to i = n + re (Z2 s q)
  ex : ∀ s q, Bef L2 t j s q → 0 ≤ thF hb L2 s → ∃ i, (ns : Int) ≤ i ∧ i < (M : Int) ∧ fr i = tx + thF hb L2 s + (L2 s : Nat) + q - 1 ∧ to i = n + re (Z2 s q)
  inc : ∀ i i', (ns : Int) ≤ i → i < i' → i' < (M : Int) → fr i < fr i'

section
variable {ns : Nat} {n tx : Int} {hb : Int → Bool} {L2 : Int → Nat} {Z2 : Int → Int → Int} {re sr sl ss : Int → Int} {t j : Int} {M : Nat} {fr to : Int → Int}
theorem Lk2.start (h : ∀ i, 0 ≤ i → i < (ns : Int) → fr i = sr i ∧ to i = n + re (sl i) + ss i) : Lk2 ns n tx hb L2 Z2 re sr sl ss 0 0 ns fr to where
  nsM := Int.le_refl _
  sp := h
  hub := fun i a b => by omega
  ex := fun s q ⟨a, b, c⟩ => by omega
  inc := fun i i' a b c => by omega
theorem Lk2.next (h : Lk2 ns n tx hb L2 Z2 re sr sl ss t j M fr to) (t0 : 0 ≤ t) (j0 : 0 ≤ j) (hj : j < ((L2 t : Nat) : Int)) (ht : 0 ≤ thF hb L2 t) :
    Lk2 ns n tx hb L2 Z2 re sr sl ss t (j + 1) (M + 1) (upd fr (M : Int) (tx + thF hb L2 t + (L2 t : Nat) + j - 1)) (upd to (M : Int) (n + re (Z2 t j))) := by
  have hM := h.nsM
  have hnew : Bef L2 t (j + 1) t j := ⟨t0, j0, .inr ⟨rfl, by omega⟩⟩
  have e1 := thF_pos t0 ht
  refine ⟨by omega, fun i a b => ?_, fun i a b => ?_, fun s q hb9 hs => ?_, fun i i' a b c => ?_⟩
  · rw [upd_other _ _ _ (by omega), upd_other _ _ _ (by omega)]; exact h.sp i a b
  · by_cases e : i = (M : Int)
    · subst e; rw [upd_same, upd_same]; exact ⟨t, j, hnew, ht, hj, rfl, rfl⟩
    · rw [upd_other _ _ _ e, upd_other _ _ _ e]
      obtain ⟨s, q, c, d⟩ := h.hub i a (by omega)
      exact ⟨s, q, c.mono, d⟩
  · rcases hb9.step with hb9 | ⟨rfl, rfl⟩
    · obtain ⟨i, a, b, c⟩ := h.ex s q hb9 hs
      exact ⟨i, a, by omega, by rw [upd_other _ _ _ (by omega), upd_other _ _ _ (by omega)]; exact c⟩
    · exact ⟨M, by omega, by omega, upd_same _ _ _, upd_same _ _ _⟩
  · rw [upd_other _ _ _ (by omega)]
    by_cases e : i' = (M : Int)
    · subst e
      rw [upd_same]
      obtain ⟨s, q, ⟨s0, q0, hB⟩, hs, hq, hf, _⟩ := h.hub i a b
      rw [hf]
      have e2 := thF_pos s0 hs
      rcases hB with ⟨c1, c2⟩ | ⟨c1, c2⟩
      · have hm := hu_mono hb L2 (j := s + 1) (k := t) (by omega) (by omega)
        omega
      · subst c1; omega
    · rw [upd_other _ _ _ e]; exact h.inc i i' a b (by omega)
theorem Lk2.tree (h : Lk2 ns n tx hb L2 Z2 re sr sl ss t j M fr to) (hj : j = (L2 t : Nat) ∨ thF hb L2 t < 0 ∧ j = 0) : Lk2 ns n tx hb L2 Z2 re sr sl ss (t + 1) 0 M fr to := by
  refine ⟨h.nsM, h.sp, fun i a b => ?_, fun s q ⟨s0, q0, hB⟩ hs => ?_, h.inc⟩
  · obtain ⟨s, q, ⟨s0, q0, hB⟩, hs, hq, hr⟩ := h.hub i a b
    refine ⟨s, q, ⟨s0, q0, .inl ?_⟩, hs, hq, hr⟩
    rcases hB with c | c
    · exact ⟨by omega, c.2⟩
    · exact ⟨by omega, hq⟩
  · refine h.ex s q ⟨s0, q0, ?_⟩ hs
    by_cases e : s = t
    · subst e; right; exact ⟨rfl, by omega⟩
    · left; omega

/-- The relays laid so far: those below 'cur', the last ones told apart. -/
structure Lk3 (nl ns : Nat) (n tx : Int) (hb : Int → Bool) (L2 : Int → Nat) (Z1 Z2 : Int → Int → Int) (re sr sl ss : Int → Int) (nt M2 : Nat) (cur : Int) (M : Nat) (fr to : Int → Int) : Prop where
  base : Lk2 ns n tx hb L2 Z2 re sr sl ss nt 0 M2 fr to
  M2M : (M2 : Int) ≤ M
  low : ∀ a, 0 ≤ a → a < (M2 : Int) → fr a < n
  rl : ∀ a, (M2 : Int) ≤ a → a < (M : Int) → n ≤ fr a ∧ fr a < n + cur
  r1 : ∀ l x, 0 ≤ l → l < (nl : Int) → re l ≤ x → x < re (l + 1) → x < cur → ∃ a, (M2 : Int) ≤ a ∧ a < (M : Int) ∧ fr a = n + x ∧ to a = Z1 l (x - re l) ∧ cntU fr (n + x) a = 0
  r2 : ∀ l x, 0 ≤ l → l < (nl : Int) → re l ≤ x → x + 1 < re (l + 1) → x < cur → cntU fr (n + x) M = 2 ∧ ∃ a, (M2 : Int) ≤ a ∧ a < (M : Int) ∧ fr a = n + x ∧ to a = n + x + 1 ∧ cntU fr (n + x) a = 1
  r3 : ∀ l x, 0 ≤ l → l < (nl : Int) → re l ≤ x → x + 1 = re (l + 1) → x < cur → cntU fr (n + x) M = 1

theorem cntU_none {fr : Int → Int} {u : Int} {k : Int} (h0 : 0 ≤ k) (h : ∀ a, 0 ≤ a → a < k → fr a ≠ u) : cntU fr u k = 0 := by
  unfold cntU
  refine sumF_zero fun j a b => ?_
  show (if fr j = u then (1 : Int) else 0) = 0
  rw [if_neg (h j a (by omega))]
theorem Lk3.start {nl nt : Nat} {Z1 : Int → Int → Int} (h : Lk2 ns n tx hb L2 Z2 re sr sl ss nt 0 M fr to) (hlow : ∀ a, 0 ≤ a → a < (M : Int) → fr a < n) (h0 : ∀ l, 0 ≤ l → 0 ≤ re l) : Lk3 nl ns n tx hb L2 Z1 Z2 re sr sl ss nt M 0 M fr to where
  base := h
  M2M := Int.le_refl _
  low := hlow
  rl := fun a b c => by omega
  r1 := fun l x a b c d e => by have := h0 l a; omega
  r2 := fun l x a b c d e => by have := h0 l a; omega
  r3 := fun l x a b c d e => by have := h0 l a; omega
theorem Lk2.upd {v w : Int} (h : Lk2 ns n tx hb L2 Z2 re sr sl ss t j M fr to) {k : Int} (hk : (M : Int) ≤ k) : Lk2 ns n tx hb L2 Z2 re sr sl ss t j M (upd fr k v) (upd to k w) := by
  have hM := h.nsM
  have e : ∀ i, i < (M : Int) → Go.Proofs.Qxb6001307a.upd fr k v i = fr i := fun i hi => upd_other _ _ _ (by omega)
  have e' : ∀ i, i < (M : Int) → Go.Proofs.Qxb6001307a.upd to k w i = to i := fun i hi => upd_other _ _ _ (by omega)
  refine ⟨h.nsM, fun i a b => by rw [e i (by omega), e' i (by omega)]; exact h.sp i a b, fun i a b => by rw [e i b, e' i b]; exact h.hub i a b, fun s q hB hs => ?_, fun i i' a b c => by rw [e i (by omega), e i' c]; exact h.inc i i' a b c⟩
  obtain ⟨i, a, b, c⟩ := h.ex s q hB hs
  exact ⟨i, a, b, by rw [e i b, e' i b]; exact c⟩
/-- One link more, from the relay in hand: its node. -/
theorem Lk3.node {nl nt M2 : Nat} {Z1 : Int → Int → Int} {cur l : Int} (h : Lk3 nl ns n tx hb L2 Z1 Z2 re sr sl ss nt M2 cur M fr to) (hmono : ∀ i k, 0 ≤ i → i ≤ k → re i ≤ re k) (hc0 : 0 ≤ cur) (l0 : 0 ≤ l) (l1 : l < (nl : Int)) (c0 : re l ≤ cur) (c1 : cur + 1 = re (l + 1)) :
    Lk3 nl ns n tx hb L2 Z1 Z2 re sr sl ss nt M2 (cur + 1) (M + 1) (upd fr (M : Int) (n + cur)) (upd to (M : Int) (Z1 l (cur - re l))) := by
  have hM := h.M2M
  have hold : ∀ u k, 0 ≤ k → k ≤ (M : Int) → cntU (upd fr (M : Int) (n + cur)) u k = cntU fr u k := fun u k a b => cntU_congr u fun i i0 i1 => upd_other _ _ _ (by omega)
  have hz : cntU fr (n + cur) M = 0 := cntU_none (by omega) fun a a0 a1 e => by
    by_cases hlt : a < (M2 : Int)
    · have := h.low a a0 hlt; omega
    · have := (h.rl a (by omega) a1).2; omega
  have huniq : ∀ l' x, 0 ≤ l' → re l' ≤ x → x < re (l' + 1) → x = cur → l' = l := fun l' x a b c d => by
    rcases Int.lt_trichotomy l' l with hh | hh | hh
    · have := hmono (l' + 1) l (by omega) (by omega); omega
    · exact hh
    · have := hmono (l + 1) l' (by omega) (by omega); omega
  have hne : ∀ x, x < cur → cntU (upd fr (M : Int) (n + cur)) (n + x) ((M + 1 : Nat) : Int) = cntU fr (n + x) M := fun x hx => by
    rw [show ((M + 1 : Nat) : Int) = (M : Int) + 1 from by omega, cntU_no (by omega) (by rw [upd_same]; omega), hold _ _ (by omega) (Int.le_refl _)]
  refine ⟨h.base.upd hM, by omega, fun a a0 a1 => by rw [upd_other _ _ _ (by omega)]; exact h.low a a0 a1, fun a a0 a1 => ?_, fun l' x a b c d e => ?_, fun l' x a b c d e => ?_, fun l' x a b c d e => ?_⟩
  · by_cases ea : a = (M : Int)
    · subst ea; rw [upd_same]; omega
    · rw [upd_other _ _ _ ea]; have := h.rl a a0 (by omega); omega
  · by_cases ex : x = cur
    · obtain rfl := huniq l' x a c d ex
      subst ex
      exact ⟨M, by omega, by omega, upd_same _ _ _, upd_same _ _ _, by rw [hold _ _ (by omega) (Int.le_refl _)]; exact hz⟩
    · obtain ⟨a9, x0, x1, x2, x3, x4⟩ := h.r1 l' x a b c d (by omega)
      exact ⟨a9, x0, by omega, by rw [upd_other _ _ _ (by omega)]; exact x2, by rw [upd_other _ _ _ (by omega)]; exact x3, by rw [hold _ _ (by omega) (by omega)]; exact x4⟩
  · by_cases ex : x = cur
    · obtain rfl := huniq l' x a c (by omega) ex
      omega
    · have h9 := h.r2 l' x a b c d (by omega)
      refine ⟨by rw [hne x (by omega)]; exact h9.1, ?_⟩
      obtain ⟨a9, x0, x1, x2, x3, x4⟩ := h9.2
      exact ⟨a9, x0, by omega, by rw [upd_other _ _ _ (by omega)]; exact x2, by rw [upd_other _ _ _ (by omega)]; exact x3, by rw [hold _ _ (by omega) (by omega)]; exact x4⟩
  · by_cases ex : x = cur
    · subst ex
      rw [show ((M + 1 : Nat) : Int) = (M : Int) + 1 from by omega, cntU_yes (by omega) (upd_same _ _ _), hold _ _ (by omega) (Int.le_refl _), hz]
      rfl
    · rw [hne x (by omega)]; exact h.r3 l' x a b c d (by omega)
/-- Two links more: its node, and the next relay. -/
theorem Lk3.both {nl nt M2 : Nat} {Z1 : Int → Int → Int} {cur l : Int} (h : Lk3 nl ns n tx hb L2 Z1 Z2 re sr sl ss nt M2 cur M fr to) (hmono : ∀ i k, 0 ≤ i → i ≤ k → re i ≤ re k) (hc0 : 0 ≤ cur) (l0 : 0 ≤ l) (l1 : l < (nl : Int)) (c0 : re l ≤ cur) (c1 : cur + 1 < re (l + 1)) :
    Lk3 nl ns n tx hb L2 Z1 Z2 re sr sl ss nt M2 (cur + 1) (M + 1 + 1) (upd (upd fr (M : Int) (n + cur)) ((M + 1 : Nat) : Int) (n + cur)) (upd (upd to (M : Int) (Z1 l (cur - re l))) ((M + 1 : Nat) : Int) (n + cur + 1)) := by
  have hM := h.M2M
  have fo : ∀ i, i < (M : Int) → upd (upd fr (M : Int) (n + cur)) ((M + 1 : Nat) : Int) (n + cur) i = fr i := fun i hi => by rw [upd_other _ _ _ (by omega), upd_other _ _ _ (by omega)]
  have too : ∀ i, i < (M : Int) → upd (upd to (M : Int) (Z1 l (cur - re l))) ((M + 1 : Nat) : Int) (n + cur + 1) i = to i := fun i hi => by rw [upd_other _ _ _ (by omega), upd_other _ _ _ (by omega)]
  have f1 : upd (upd fr (M : Int) (n + cur)) ((M + 1 : Nat) : Int) (n + cur) (M : Int) = n + cur := by rw [upd_other _ _ _ (by omega), upd_same]
  have f2 : upd (upd fr (M : Int) (n + cur)) ((M + 1 : Nat) : Int) (n + cur) ((M : Int) + 1) = n + cur := by rw [show (M : Int) + 1 = ((M + 1 : Nat) : Int) from by omega, upd_same]
  have t1 : upd (upd to (M : Int) (Z1 l (cur - re l))) ((M + 1 : Nat) : Int) (n + cur + 1) (M : Int) = Z1 l (cur - re l) := by rw [upd_other _ _ _ (by omega), upd_same]
  have t2 : upd (upd to (M : Int) (Z1 l (cur - re l))) ((M + 1 : Nat) : Int) (n + cur + 1) ((M : Int) + 1) = n + cur + 1 := by rw [show (M : Int) + 1 = ((M + 1 : Nat) : Int) from by omega, upd_same]
  have hold : ∀ u k, 0 ≤ k → k ≤ (M : Int) → cntU (upd (upd fr (M : Int) (n + cur)) ((M + 1 : Nat) : Int) (n + cur)) u k = cntU fr u k := fun u k a b => cntU_congr u fun i i0 i1 => fo i (by omega)
  have hz : cntU fr (n + cur) M = 0 := cntU_none (by omega) fun a a0 a1 e => by
    by_cases hlt : a < (M2 : Int)
    · have := h.low a a0 hlt; omega
    · have := (h.rl a (by omega) a1).2; omega
  have huniq : ∀ l' x, 0 ≤ l' → re l' ≤ x → x < re (l' + 1) → x = cur → l' = l := fun l' x a b c d => by
    rcases Int.lt_trichotomy l' l with hh | hh | hh
    · have := hmono (l' + 1) l (by omega) (by omega); omega
    · exact hh
    · have := hmono (l + 1) l' (by omega) (by omega); omega
  have hc : ((M + 1 + 1 : Nat) : Int) = (M : Int) + 1 + 1 := by omega
  have hne : ∀ x, x < cur → cntU (upd (upd fr (M : Int) (n + cur)) ((M + 1 : Nat) : Int) (n + cur)) (n + x) ((M + 1 + 1 : Nat) : Int) = cntU fr (n + x) M := fun x hx => by
    rw [hc, cntU_no (by omega) (by rw [f2]; omega), cntU_no (by omega) (by rw [f1]; omega), hold _ _ (by omega) (Int.le_refl _)]
  have hone : cntU (upd (upd fr (M : Int) (n + cur)) ((M + 1 : Nat) : Int) (n + cur)) (n + cur) ((M : Int) + 1) = 1 := by
    rw [cntU_yes (by omega) f1, hold _ _ (by omega) (Int.le_refl _), hz]; rfl
  refine ⟨(h.base.upd hM).upd (by omega), by omega, fun a a0 a1 => by rw [fo a (by omega)]; exact h.low a a0 a1, fun a a0 a1 => ?_, fun l' x a b c d e => ?_, fun l' x a b c d e => ?_, fun l' x a b c d e => ?_⟩
  · by_cases ea : a < (M : Int)
    · rw [fo a ea]; have := h.rl a a0 ea; omega
    · rcases (by omega : a = (M : Int) ∨ a = (M : Int) + 1) with rfl | rfl
      · rw [f1]; omega
      · rw [f2]; omega
  · by_cases ex : x = cur
    · obtain rfl := huniq l' x a c d ex
      subst ex
      exact ⟨M, by omega, by omega, f1, t1, by rw [hold _ _ (by omega) (Int.le_refl _)]; exact hz⟩
    · obtain ⟨a9, x0, x1, x2, x3, x4⟩ := h.r1 l' x a b c d (by omega)
      exact ⟨a9, x0, by omega, by rw [fo a9 x1]; exact x2, by rw [too a9 x1]; exact x3, by rw [hold _ _ (by omega) (by omega)]; exact x4⟩
  · by_cases ex : x = cur
    · subst ex
      refine ⟨by rw [hc, cntU_yes (by omega) f2, hone]; rfl, (M : Int) + 1, by omega, by omega, f2, t2, hone⟩
    · have h9 := h.r2 l' x a b c d (by omega)
      refine ⟨by rw [hne x (by omega)]; exact h9.1, ?_⟩
      obtain ⟨a9, x0, x1, x2, x3, x4⟩ := h9.2
      exact ⟨a9, x0, by omega, by rw [fo a9 x1]; exact x2, by rw [too a9 x1]; exact x3, by rw [hold _ _ (by omega) (by omega)]; exact x4⟩
  · by_cases ex : x = cur
    · obtain rfl := huniq l' x a c (by omega) ex
      omega
    · rw [hne x (by omega)]; exact h.r3 l' x a b c d (by omega)
end
end Go.Proofs.Qxb6001307a
