/-
  OWN WORK. The plain facts that relayPrep lays and tests.
-/
import Derived.Test.Qxb6001307aRelC
namespace Go.Proofs.Qxb6001307a
set_option linter.unusedSimpArgs false
set_option linter.unusedVariables false

theorem V_no2 {P : Program} {N : Nat} {B : Nat → Prop} {w0 : World} {ops : Array Oper} {Q : Exit → Act → World → Prop} {L : List (Nat × Value)} {H : List (Nat × Bk)} {d : Nat} {op : Op} {ty : TypeId} {pos : String} {af : Array Edge} {j t : Nat} {b : Bool} {rest : List Oper} (hj : (ops[j]?).bind (·.dst) = some t) (hb : lk L t = some undef) (hd : Nat.ble (d + 1) N = true) (h : V P N B w0 ops Q rest ((d, undef) :: L) H) : V P N B w0 ops Q (⟨some d, op, ty, pos, af, some (j, b)⟩ :: rest) L H :=
  ⟨fun a w hf hm => by
    have hy : yielded ops a.tmps j = Option.none := by
      unfold yielded
      rw [hj, Option.bind_some, hf.get t _ hb]
      rfl
    unfold wpList
    rw [if_neg (by simp only [Region.wanted, hy]; cases b <;> simp)]
    exact h.run _ _ (hf.put hd _) hm⟩

/-- The hubs of the trees before 't'. -/
def hu (hb : Int → Bool) (L : Int → Nat) (t : Int) : Int := sumF (fun s => if hb s = true ∧ 0 < L s then 2 * ((L s : Nat) : Int) - 1 else 0) t.toNat
def thF (hb : Int → Bool) (L : Int → Nat) (t : Int) : Int := if hb t = true ∧ 0 < L t then hu hb L t else -1
theorem hu_zero (hb : Int → Bool) (L : Int → Nat) : hu hb L 0 = 0 := rfl
theorem hu_yes {hb : Int → Bool} {L : Int → Nat} {t : Int} (h : 0 ≤ t) (hy : hb t = true ∧ 0 < L t) : hu hb L (t + 1) = hu hb L t + (2 * ((L t : Nat) : Int) - 1) := by
  unfold hu
  rw [show (t + 1).toNat = t.toNat + 1 from by omega, sumF, show ((t.toNat : Nat) : Int) = t from by omega]
  show _ + (if hb t = true ∧ 0 < L t then 2 * ((L t : Nat) : Int) - 1 else 0) = _
  rw [if_pos hy]
theorem hu_no {hb : Int → Bool} {L : Int → Nat} {t : Int} (h : 0 ≤ t) (hy : ¬ (hb t = true ∧ 0 < L t)) : hu hb L (t + 1) = hu hb L t := by
  unfold hu
  rw [show (t + 1).toNat = t.toNat + 1 from by omega, sumF, show ((t.toNat : Nat) : Int) = t from by omega]
  show _ + (if hb t = true ∧ 0 < L t then 2 * ((L t : Nat) : Int) - 1 else 0) = _
  rw [if_neg hy]
  omega
theorem hu_b (hb : Int → Bool) (L : Int → Nat) {t : Int} (h : 0 ≤ t) : 0 ≤ hu hb L t ∧ hu hb L t ≤ 2 * tot L t := by
  obtain ⟨d, hd⟩ : ∃ d : Nat, t = d := ⟨t.toNat, by omega⟩
  subst hd
  induction d with
  | zero => rw [show ((0 : Nat) : Int) = 0 from rfl, hu_zero, tot_zero]; omega
  | succ d ih =>
    have ih := ih (by omega)
    rw [show ((d + 1 : Nat) : Int) = (d : Int) + 1 from by omega, tot_succ L (by omega)]
    by_cases hy : hb d = true ∧ 0 < L d
    · rw [hu_yes (by omega) hy]; omega
    · rw [hu_no (by omega) hy]; omega
theorem hu_mono (hb : Int → Bool) (L : Int → Nat) {j k : Int} (h0 : 0 ≤ j) (h : j ≤ k) : hu hb L j ≤ hu hb L k := by
  obtain ⟨d, hd⟩ : ∃ d : Nat, k = j + d := ⟨(k - j).toNat, by omega⟩
  subst hd
  clear h
  induction d with
  | zero => simp
  | succ d ih =>
    rw [show j + ((d + 1 : Nat) : Int) = (j + d) + 1 from by omega]
    by_cases hy : hb (j + d) = true ∧ 0 < L (j + d)
    · rw [hu_yes (by omega) hy]; omega
    · rw [hu_no (by omega) hy]; exact ih
theorem thF_pos {hb : Int → Bool} {L : Int → Nat} {t : Int} (h0 : 0 ≤ t) (h : 0 ≤ thF hb L t) : thF hb L t = hu hb L t ∧ hb t = true ∧ 0 < L t ∧ hu hb L (t + 1) = hu hb L t + (2 * ((L t : Nat) : Int) - 1) := by
  unfold thF at h ⊢
  by_cases hy : hb t = true ∧ 0 < L t
  · rw [if_pos hy]; exact ⟨rfl, hy.1, hy.2, hu_yes h0 hy⟩
  · rw [if_neg hy] at h; omega
/-- Every hub belongs to one tree. -/
theorem hub_tree (hb : Int → Bool) (L : Int → Nat) (T : Nat) {h : Int} (h0 : 0 ≤ h) (h1 : h < hu hb L T) : ∃ t, 0 ≤ t ∧ t < (T : Int) ∧ 0 ≤ thF hb L t ∧ thF hb L t ≤ h ∧ h < thF hb L t + (2 * ((L t : Nat) : Int) - 1) := by
  induction T with
  | zero => rw [show ((0 : Nat) : Int) = 0 from rfl, hu_zero] at h1; omega
  | succ T ih =>
    by_cases hc : h < hu hb L T
    · obtain ⟨t, a, b, c⟩ := ih hc
      exact ⟨t, a, by omega, c⟩
    · rw [show ((T + 1 : Nat) : Int) = (T : Int) + 1 from by omega] at h1
      by_cases hy : hb T = true ∧ 0 < L T
      · rw [hu_yes (by omega) hy] at h1
        have ht : thF hb L T = hu hb L T := by unfold thF; rw [if_pos hy]
        have hb0 := (hu_b hb L (t := T) (by omega)).1
        exact ⟨T, by omega, by omega, by omega, by omega, by omega⟩
      · rw [hu_no (by omega) hy] at h1; omega

/-- Which hub belongs to which tree. -/
def HtI (hb : Int → Bool) (L : Int → Nat) (t i : Int) (ht : Int → Int) : Prop :=
  ∀ s j, 0 ≤ s → 0 ≤ j → 0 ≤ thF hb L s → j < 2 * ((L s : Nat) : Int) - 1 → (s < t ∨ (s = t ∧ j < i)) → ht (thF hb L s + j) = s
theorem HtI.next {hb : Int → Bool} {L : Int → Nat} {t i : Int} {ht : Int → Int} (h : HtI hb L t i ht) (h0 : 0 ≤ t) (hi : 0 ≤ i) (ht0 : 0 ≤ thF hb L t) : HtI hb L t (i + 1) (upd ht (thF hb L t + i) t) := by
  intro s j s0 j0 st jl hs
  have e1 := thF_pos h0 ht0
  have e2 := thF_pos s0 st
  by_cases e : s = t ∧ j = i
  · obtain ⟨rfl, rfl⟩ := e; exact upd_same _ _ _
  · by_cases es : s = t
    · subst es
      rw [upd_other _ _ _ (by omega)]
      exact h s j s0 j0 st jl (by omega)
    · have hm := hu_mono hb L (j := s + 1) (k := t) (by omega) (by omega)
      rw [upd_other _ _ _ (by omega)]
      exact h s j s0 j0 st jl (by omega)
theorem HtI.done {hb : Int → Bool} {L : Int → Nat} {t i : Int} {ht : Int → Int} (h : HtI hb L t i ht) (hi : 2 * ((L t : Nat) : Int) - 1 ≤ i) : HtI hb L (t + 1) 0 ht := by
  intro s j s0 j0 st jl hs
  exact h s j s0 j0 st jl (by by_cases e : s = t; (subst e; omega); omega)
theorem HtI.skip {hb : Int → Bool} {L : Int → Nat} {t : Int} {ht : Int → Int} (h : HtI hb L t 0 ht) (hi : thF hb L t < 0) : HtI hb L (t + 1) 0 ht := by
  intro s j s0 j0 st jl hs
  refine h s j s0 j0 st jl ?_
  by_cases e : s = t
  · subst e; omega
  · omega

/-- The leaves, up to leaf 'j' of tree 't'. -/
def Bef (L : Int → Nat) (t j s i : Int) : Prop := 0 ≤ s ∧ 0 ≤ i ∧ ((s < t ∧ i < ((L s : Nat) : Int)) ∨ (s = t ∧ i < j))
structure LvI (nl : Nat) (L1 L2 : Int → Nat) (Z : Int → Int → Int) (th : Int → Int) (t j : Int) (ow : Int → Bool) (lt : Int → Int) : Prop where
  rng : ∀ s i, Bef L2 t j s i → 0 ≤ Z s i ∧ Z s i < (nl : Int) ∧ ow (Z s i) = true
  cov : ∀ s i, Bef L2 t j s i → 0 ≤ th s → 0 < L1 (Z s i) ∧ lt (Z s i) = s
  inj : ∀ s i s' i', Bef L2 t j s i → Bef L2 t j s' i' → Z s i = Z s' i' → s = s' ∧ i = i'
  own : ∀ l, ow l = true → ∃ s i, Bef L2 t j s i ∧ Z s i = l
  ltr : ∀ l, 0 ≤ l → l < (nl : Int) → lt l = -1 ∨ ∃ s i, Bef L2 t j s i ∧ 0 ≤ th s ∧ Z s i = l ∧ lt l = s
theorem LvI.start {nl : Nat} {L1 L2 : Int → Nat} {Z : Int → Int → Int} {th lt : Int → Int} (hlt : ∀ l, 0 ≤ l → l < (nl : Int) → lt l = -1) : LvI nl L1 L2 Z th 0 0 (fun _ => false) lt where
  rng := fun s i ⟨a, b, c⟩ => by omega
  cov := fun s i ⟨a, b, c⟩ => by omega
  inj := fun s i s' i' ⟨a, b, c⟩ => by omega
  own := fun l h => by cases h
  ltr := fun l a b => .inl (hlt l a b)
theorem Bef.step {L : Int → Nat} {t j s i : Int} (h : Bef L t (j + 1) s i) : Bef L t j s i ∨ (s = t ∧ i = j) := by
  obtain ⟨a, b, c | ⟨c, d⟩⟩ := h
  · exact .inl ⟨a, b, .inl c⟩
  · by_cases e : i = j
    · exact .inr ⟨c, e⟩
    · exact .inl ⟨a, b, .inr ⟨c, by omega⟩⟩
theorem Bef.mono {L : Int → Nat} {t j s i : Int} (h : Bef L t j s i) : Bef L t (j + 1) s i := by
  obtain ⟨a, b, c | ⟨c, d⟩⟩ := h
  · exact ⟨a, b, .inl c⟩
  · exact ⟨a, b, .inr ⟨c, by omega⟩⟩
theorem LvI.next {nl : Nat} {L1 L2 : Int → Nat} {Z : Int → Int → Int} {th lt : Int → Int} {t j : Int} {ow : Int → Bool} (h : LvI nl L1 L2 Z th t j ow lt) (t0 : 0 ≤ t) (j0 : 0 ≤ j) (h0 : 0 ≤ Z t j) (h1 : Z t j < (nl : Int)) (hw : ow (Z t j) = false) (lt1 : Int → Int)
    (hl : (0 ≤ th t ∧ 0 < L1 (Z t j) ∧ lt1 = upd lt (Z t j) t) ∨ (th t < 0 ∧ lt1 = lt)) : LvI nl L1 L2 Z th t (j + 1) (upd ow (Z t j) true) lt1 := by
  have hnew : Bef L2 t (j + 1) t j := ⟨t0, j0, .inr ⟨rfl, by omega⟩⟩
  have hne : ∀ s i, Bef L2 t j s i → Z s i ≠ Z t j := fun s i hb e => by have := (h.rng s i hb).2.2; rw [e, hw] at this; cases this
  refine ⟨fun s i hb => ?_, fun s i hb hs => ?_, fun s i s' i' hb hb' e => ?_, fun l hl' => ?_, fun l l0 l1 => ?_⟩
  · rcases hb.step with hb | ⟨rfl, rfl⟩
    · have := h.rng s i hb
      exact ⟨this.1, this.2.1, by rw [upd_other _ _ _ (hne s i hb)]; exact this.2.2⟩
    · exact ⟨h0, h1, upd_same _ _ _⟩
  · rcases hb.step with hb | ⟨rfl, rfl⟩
    · have h9 := h.cov s i hb hs
      refine ⟨h9.1, ?_⟩
      rcases hl with ⟨_, _, rfl⟩ | ⟨_, rfl⟩
      · rw [upd_other _ _ _ (hne s i hb)]; exact h9.2
      · exact h9.2
    · rcases hl with ⟨_, hp, rfl⟩ | ⟨hn, _⟩
      · exact ⟨hp, upd_same _ _ _⟩
      · omega
  · rcases hb.step with hb | ⟨rfl, rfl⟩ <;> rcases hb'.step with hb' | ⟨rfl, rfl⟩
    · exact h.inj s i s' i' hb hb' e
    · exact absurd e (hne s i hb)
    · exact absurd e.symm (hne s' i' hb')
    · exact ⟨rfl, rfl⟩
  · by_cases e : l = Z t j
    · exact ⟨t, j, hnew, e.symm⟩
    · rw [upd_other _ _ _ e] at hl'
      obtain ⟨s, i, a, b⟩ := h.own l hl'
      exact ⟨s, i, a.mono, b⟩
  · rcases hl with ⟨ht, hp, rfl⟩ | ⟨hn, rfl⟩
    · by_cases e : l = Z t j
      · subst e; exact .inr ⟨t, j, hnew, ht, rfl, upd_same _ _ _⟩
      · rw [upd_other _ _ _ e]
        rcases h.ltr l l0 l1 with h9 | ⟨s, i, a, b, c, d⟩
        · exact .inl h9
        · exact .inr ⟨s, i, a.mono, b, c, d⟩
    · rcases h.ltr l l0 l1 with h9 | ⟨s, i, a, b, c, d⟩
      · exact .inl h9
      · exact .inr ⟨s, i, a.mono, b, c, d⟩
theorem LvI.tree {nl : Nat} {L1 L2 : Int → Nat} {Z : Int → Int → Int} {th lt : Int → Int} {t j : Int} {ow : Int → Bool} (h : LvI nl L1 L2 Z th t j ow lt) (hj : j = (L2 t : Nat)) : LvI nl L1 L2 Z th (t + 1) 0 ow lt := by
  have hiff : ∀ s i, Bef L2 (t + 1) 0 s i ↔ Bef L2 t j s i := by
    intro s i
    unfold Bef
    constructor
    · rintro ⟨a, b, c⟩
      refine ⟨a, b, ?_⟩
      by_cases e : s = t
      · subst e; right; exact ⟨rfl, by omega⟩
      · left; omega
    · rintro ⟨a, b, c⟩
      refine ⟨a, b, ?_⟩
      left
      rcases c with c | ⟨rfl, c⟩
      · exact ⟨by omega, c.2⟩
      · exact ⟨by omega, by omega⟩
  refine ⟨fun s i hb => h.rng s i ((hiff s i).1 hb), fun s i hb => h.cov s i ((hiff s i).1 hb), fun s i s' i' hb hb' => h.inj s i s' i' ((hiff s i).1 hb) ((hiff s' i').1 hb'), fun l hl => ?_, fun l l0 l1 => ?_⟩
  · obtain ⟨s, i, a, b⟩ := h.own l hl
    exact ⟨s, i, (hiff s i).2 a, b⟩
  · rcases h.ltr l l0 l1 with h9 | ⟨s, i, a, b⟩
    · exact .inl h9
    · exact .inr ⟨s, i, (hiff s i).2 a, b⟩

/-- The spans: within their lists, sorted. -/
def SpI (nl : Nat) (tx : Int) (L1 : Int → Nat) (sr sl ss : Int → Int) (k : Int) : Prop :=
  (∀ i, 0 ≤ i → i < k → 0 ≤ sr i ∧ sr i < tx ∧ 0 ≤ sl i ∧ sl i < (nl : Int) ∧ 0 ≤ ss i ∧ ss i < ((L1 (sl i) : Nat) : Int)) ∧
  (∀ i, 0 < i → i < k → sl (i - 1) < sl i ∨ (sl (i - 1) = sl i ∧ ss (i - 1) ≤ ss i))
theorem SpI.le {nl : Nat} {tx : Int} {L1 : Int → Nat} {sr sl ss : Int → Int} {k : Int} (h : SpI nl tx L1 sr sl ss k) (d : Nat) : ∀ i, 0 ≤ i → i + d < k → sl i < sl (i + d) ∨ (sl i = sl (i + d) ∧ ss i ≤ ss (i + d)) := by
  induction d with
  | zero => intro i a b; right; simp
  | succ d ih =>
    intro i a b
    have h1 := ih i a (by omega)
    have h2 := h.2 (i + d + 1) (by omega) (by omega)
    rw [show i + d + 1 - 1 = i + d from by omega] at h2
    rw [show i + ((d + 1 : Nat) : Int) = i + d + 1 from by omega]
    omega
/-- Where list 'l' has its first span. -/
def LfOK (ns : Nat) (sl : Int → Int) (l k : Int) : Prop := 0 ≤ k ∧ k ≤ (ns : Int) ∧ (∀ i, 0 ≤ i → i < k → sl i < l) ∧ (∀ i, k ≤ i → i < (ns : Int) → l ≤ sl i)
theorem lf_iff {ns : Nat} {sl lf : Int → Int} {l : Int} (h1 : LfOK ns sl l (lf l)) (h2 : LfOK ns sl (l + 1) (lf (l + 1))) : lf l < lf (l + 1) ↔ ∃ i, 0 ≤ i ∧ i < (ns : Int) ∧ sl i = l := by
  constructor
  · intro h
    have a := h1.2.2.2 (lf l) (Int.le_refl _) (by have := h2.2.1; omega)
    have b := h2.2.2.1 (lf l) h1.1 h
    exact ⟨lf l, h1.1, by have := h2.2.1; omega, by omega⟩
  · rintro ⟨i, i0, i1, i2⟩
    rcases Int.lt_or_le i (lf l) with c | c
    · have := h1.2.2.1 i i0 c; omega
    · rcases Int.lt_or_le i (lf (l + 1)) with d | d
      · omega
      · have := h2.2.2.2 i d i1; omega

/-- What relayPrep has tested and laid. -/
structure PrepOK (nf no nc nl ns np nq nt nh : Nat) (f o : Int → Int) (L1 L2 : Int → Nat) (Z1 Z2 : Int → Int → Int) (sr sl ss : Int → Int) (hb : Int → Bool) (n : Nat) (tx : Int) (lf lt ht : Int → Int) : Prop where
  adj : AdjOK nf no nc f o
  hn : (n : Int) = (nf : Int) - 1
  enp : np = ns
  enq : nq = ns
  enh : nh = nt
  etx : tx = (n : Int) - hu hb L2 nt
  tx0 : 0 ≤ tx
  hti : HtI hb L2 nt 0 ht
  nodes : ∀ l i, 0 ≤ l → l < (nl : Int) → 0 ≤ i → i < ((L1 l : Nat) : Int) → 0 ≤ Z1 l i ∧ Z1 l i < tx
  lv : ∃ ow, LvI nl L1 L2 Z2 (thF hb L2) nt 0 ow lt
  sp : SpI nl tx L1 sr sl ss ns
  lfi : ∀ l, 0 ≤ l → l ≤ (nl : Int) → LfOK ns sl l (lf l)
end Go.Proofs.Qxb6001307a
