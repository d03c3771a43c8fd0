/-
  OWN WORK. Tarjan's algorithm, with no Go in sight: what the components taken so far are; the measure.
-/
import Derived.Test.Qxb6001307aPlainW
namespace Go.Proofs.Qxb6001307a
set_option linter.unusedSimpArgs false
set_option linter.unusedVariables false

theorem sumF_zero {h : Int → Int} {n : Nat} (hb : ∀ j, 0 ≤ j → j < (n : Int) → h j = 0) : sumF h n = 0 := by
  induction n with
  | zero => rfl
  | succ n ih =>
    simp only [sumF]
    rw [ih fun j a b => hb j a (by omega), hb (n : Int) (by omega) (by omega)]
    rfl
theorem count_seg {n : Nat} {st : Int → Int} {t : Int} (k : Nat) : ∀ (G : Int → Int) (r : Int), r = t + k → (∀ i, t ≤ i → i < r → 0 ≤ st i ∧ st i < (n : Int)) → (∀ i j, t ≤ i → i < j → j < r → st i ≠ st j) → (∀ i, t ≤ i → i < r → G (st i) = 1) →
    (∀ v, (∀ i, t ≤ i → i < r → st i ≠ v) → G v = 0) → sumF G n = k := by
  induction k with
  | zero =>
    intro G r hr h1 h2 h3 h4
    exact sumF_zero fun j _ _ => h4 j fun i a b => by omega
  | succ k ih =>
    intro G r hr h1 h2 h3 h4
    have hl := h1 (r - 1) (by omega) (by omega)
    have e := ih (upd G (st (r - 1)) 0) (r - 1) (by omega) (fun i a b => h1 i a (by omega)) (fun i j a b c => h2 i j a b (by omega)) (fun i a b => by
      rw [upd_other _ _ _ (h2 i (r - 1) a (by omega) (by omega))]; exact h3 i a (by omega)) (fun v hv => by
      by_cases e : v = st (r - 1)
      · subst e; exact upd_same _ _ _
      · rw [upd_other _ _ _ e]
        refine h4 v fun i a b => ?_
        by_cases ei : i = r - 1
        · subst ei; exact fun e2 => e e2.symm
        · exact hv i a (by omega))
    rw [sumF_upd hl.1 hl.2, h3 (r - 1) (by omega) (by omega)] at e
    omega

structure Tk (n : Nat) (f o cl : Int → Int) (al : Int) (A : Int → Prop) (K m : Nat) (comp fo beg en : Int → Int) : Prop where
  K1 : 1 ≤ K
  Km : (K : Int) ≤ (m : Int) + 1
  cA : ∀ v, A v → 0 ≤ comp v
  cO : ∀ v, 0 ≤ v → v < (n : Int) → ¬ A v → comp v = -1
  tA : ∀ v, 1 ≤ comp v → A v ∧ comp v < (K : Int)
  eF : ∀ x e, 1 ≤ comp x → f x ≤ e → e < f (x + 1) → band (cl e) al ≠ 0 → A (o e) → 1 ≤ comp (o e) ∧ comp (o e) ≤ comp x
  sR : ∀ x y, 1 ≤ comp x → comp y = comp x → Reach (Ed f o cl al A) x y
  b0 : beg 0 = 0
  e0 : en 0 = n
  tile : ∀ k, 1 ≤ k → k < (K : Int) → beg k = (if k = 1 then 0 else en (k - 1)) ∧ beg k < en k ∧ 0 ≤ beg k ∧ en k ≤ m
  last : (if K = 1 then 0 else en ((K : Int) - 1)) = m
  seg : ∀ k i, 1 ≤ k → k < (K : Int) → beg k ≤ i → i < en k → comp (fo i) = k
  inj : ∀ i j, 0 ≤ i → i < j → j < (m : Int) → fo i ≠ fo j
  foA : ∀ i, 0 ≤ i → i < (m : Int) → 1 ≤ comp (fo i)
  cnt : ∀ k, 1 ≤ k → k < (K : Int) → sumF (fun v => if comp v = k then 1 else 0) n = en k - beg k
  sur : ∀ v, 1 ≤ comp v → ∃ i, 0 ≤ i ∧ i < (m : Int) ∧ fo i = v

section
variable {n : Nat} {f o cl : Int → Int} {al : Int} {A : Int → Prop} {r d m : Nat} {seen : Int} {st fp idx low pr cc comp : Int → Int} {on : Int → Bool} {K : Nat} {fo beg en : Int → Int}
theorem Tk.take (hk : Tk n f o cl al A K m comp fo beg en) (h : Ts n f o cl al A r d m seen st fp idx low pr cc comp on) (hA : ∀ v, A v → 0 ≤ v ∧ v < (n : Int)) (hd : 0 < d) {u : Int} (hu : u = st (fp ((d : Int) - 1))) (he : pr u = f (u + 1)) (hne : low u = idx u) {t : Nat} (ht : (t : Int) = fp ((d : Int) - 1))
    {comp1 : Int → Int} {on1 : Int → Bool} (hp : Popped t r n K st comp on comp1 on1) {fo1 : Int → Int} (hf1 : ∀ x, 0 ≤ x → x < (m : Int) → fo1 x = fo x) (hf2 : ∀ i, (t : Int) ≤ i → i < (r : Int) → fo1 ((m : Int) + ((r : Int) - 1 - i)) = st i) :
    Tk n f o cl al A (K + 1) (m + (r - t)) comp1 fo1 (upd beg K (beg 0 + m)) (upd en K (beg 0 + ((m + (r - t) : Nat) : Int))) := by
  have hb := h.fpb ((d : Int) - 1) (by omega) (by omega)
  have hK := hk.K1
  have htr : t < r := by omega
  have hparts : ∀ v, (∃ i, (t : Int) ≤ i ∧ i < (r : Int) ∧ st i = v) ∨ (∀ i, (t : Int) ≤ i → i < (r : Int) → st i ≠ v) := by
    intro v
    by_cases hc : ∃ i, (t : Int) ≤ i ∧ i < (r : Int) ∧ st i = v
    · exact .inl hc
    · exact .inr fun i h0 h1 he => hc ⟨i, h0, h1, he⟩
  have hA1 : ∀ i, (t : Int) ≤ i → i < (r : Int) → A (st i) ∧ comp (st i) = 0 ∧ 1 ≤ idx (st i) := fun i a b => h.A1 i (by omega) b
  have hold : ∀ v, 1 ≤ comp v → comp1 v = comp v := fun v hv => hp.c2 v fun i a b e => by have := (hA1 i a b).2.1; rw [e] at this; omega
  have hK1 : ∀ v, comp1 v = (K : Int) → ∃ i, (t : Int) ≤ i ∧ i < (r : Int) ∧ st i = v := fun v hv => by
    rcases hparts v with hc | hc
    · exact hc
    · rw [hp.c2 v hc] at hv
      have := (hk.tA v (by omega)).2
      omega
  have hge : ∀ v, 1 ≤ comp1 v → 1 ≤ comp v ∨ comp1 v = K := fun v hv => by
    rcases hparts v with ⟨i, a, b, rfl⟩ | hc
    · right; exact hp.c1 i a b
    · left; rw [hp.c2 v hc] at hv; exact hv
  have ubo : ∀ (g : Int → Int) (z k : Int), k < (K : Int) → upd g K z k = g k := fun g z k hh => upd_other _ _ _ (by omega)
  have hlast : (if (K : Int) = 1 then 0 else en ((K : Int) - 1)) = m := by
    have := hk.last
    by_cases e : K = 1
    · rw [if_pos e] at this; rw [if_pos (by omega)]; exact this
    · rw [if_neg e] at this; rw [if_neg (by omega)]; exact this
  refine ⟨by omega, by have := hk.Km; omega, fun v hv => ?_, fun v v0 v1 va => ?_, fun v hv => ?_, fun x e hx e0 e1 e2 e3 => ?_, fun x y hx hy => ?_, ?_, ?_, fun k k0 k1 => ?_, ?_, fun k i k0 k1 i0 i1 => ?_, fun i j i0 ij jm => ?_, fun i i0 i1 => ?_, fun k k0 k1 => ?_, fun v hv => ?_⟩
  · rcases hparts v with ⟨i, a, b, rfl⟩ | hc
    · rw [hp.c1 i a b]; omega
    · rw [hp.c2 v hc]; exact hk.cA v hv
  · rw [hp.c2 v fun i a b e => va (by rw [← e]; exact (hA1 i a b).1)]
    exact hk.cO v v0 v1 va
  · rcases hparts v with ⟨i, a, b, rfl⟩ | hc
    · rw [hp.c1 i a b]; exact ⟨(hA1 i a b).1, by omega⟩
    · rw [hp.c2 v hc] at hv ⊢
      have := hk.tA v hv
      exact ⟨this.1, by omega⟩
  · rcases hge x hx with h1 | h1
    · have h2 := hk.eF x e h1 e0 e1 e2 e3
      rw [hold _ h2.1, hold _ h1]
      exact h2
    · obtain ⟨i, a, b, rfl⟩ := hK1 x h1
      rw [h1]
      rcases h.seg_edge hk.cA hd hu he hne (i := i) (by omega) b e0 e1 e2 e3 with h2 | ⟨i', a', b', h2⟩
      · rw [hold _ h2]
        have := (hk.tA _ h2).2
        omega
      · rw [h2, hp.c1 i' (by omega) b']; omega
  · rcases hge x hx with h1 | h1
    · rw [hold _ h1] at hy
      have hy2 : comp y = comp x := by
        rcases hparts y with ⟨i, a, b, rfl⟩ | hc
        · rw [hp.c1 i a b] at hy
          have := (hk.tA x h1).2
          omega
        · rw [hp.c2 y hc] at hy; exact hy
      exact hk.sR x y h1 hy2
    · rw [h1] at hy
      obtain ⟨i, a, b, rfl⟩ := hK1 x h1
      obtain ⟨i', a', b', rfl⟩ := hK1 y hy
      have w1 := h.seg_back hd hu hne (i - fp ((d : Int) - 1)).toNat i (by omega) b
      have w2 := h.aR ((d : Int) - 1) i' (by omega) (by omega) (by omega) b'
      rw [← hu] at w2
      exact w1.trans w2
  · rw [ubo _ _ _ (by omega)]; exact hk.b0
  · rw [ubo _ _ _ (by omega)]; exact hk.e0
  · by_cases e : k = (K : Int)
    · subst e
      rw [upd_same, upd_same, hk.b0]
      refine ⟨?_, by omega, by omega, by omega⟩
      by_cases e1 : (K : Int) = 1
      · rw [if_pos e1] at hlast ⊢; omega
      · rw [if_neg e1] at hlast ⊢
        rw [ubo _ _ _ (by omega)]; omega
    · have h1 := hk.tile k k0 (by omega)
      rw [ubo _ _ _ (by omega), ubo _ _ k (by omega), ubo _ _ (k - 1) (by omega)]
      exact ⟨h1.1, h1.2.1, h1.2.2.1, by omega⟩
  · rw [if_neg (by omega), show ((K + 1 : Nat) : Int) - 1 = (K : Int) from by omega, upd_same, hk.b0]
    omega
  · by_cases e : k = (K : Int)
    · subst e
      rw [upd_same, hk.b0] at i0 i1
      have h1 := hf2 ((r : Int) - 1 - (i - m)) (by omega) (by omega)
      rw [show (m : Int) + ((r : Int) - 1 - ((r : Int) - 1 - (i - m))) = i from by omega] at h1
      rw [h1]; exact hp.c1 _ (by omega) (by omega)
    · rw [ubo _ _ _ (by omega)] at i0 i1
      have h1 := hk.tile k k0 (by omega)
      have h2 := hk.seg k i k0 (by omega) i0 i1
      rw [hf1 i (by omega) (by omega), hold _ (by omega)]
      exact h2
  · by_cases hj : j < (m : Int)
    · rw [hf1 i i0 (by omega), hf1 j (by omega) hj]; exact hk.inj i j i0 ij hj
    · have h1 := hf2 ((r : Int) - 1 - (j - m)) (by omega) (by omega)
      rw [show (m : Int) + ((r : Int) - 1 - ((r : Int) - 1 - (j - m))) = j from by omega] at h1
      rw [h1]
      by_cases hi : i < (m : Int)
      · rw [hf1 i i0 hi]
        intro e
        have h3 := hk.foA i i0 hi
        rw [e] at h3
        have := (hA1 ((r : Int) - 1 - (j - m)) (by omega) (by omega)).2.1
        omega
      · have h2 := hf2 ((r : Int) - 1 - (i - m)) (by omega) (by omega)
        rw [show (m : Int) + ((r : Int) - 1 - ((r : Int) - 1 - (i - m))) = i from by omega] at h2
        rw [h2]
        intro e
        have := h.dis (by omega) (by omega) (by omega) (by omega) e
        omega
  · by_cases hi : i < (m : Int)
    · have h3 := hk.foA i i0 hi
      rw [hf1 i i0 hi, hold _ h3]; exact h3
    · have h2 := hf2 ((r : Int) - 1 - (i - m)) (by omega) (by omega)
      rw [show (m : Int) + ((r : Int) - 1 - ((r : Int) - 1 - (i - m))) = i from by omega] at h2
      rw [h2, hp.c1 _ (by omega) (by omega)]; omega
  · by_cases e : k = (K : Int)
    · subst e
      rw [upd_same, upd_same, hk.b0]
      rw [count_seg (t := t) (r - t) (fun v => if comp1 v = K then 1 else 0) r (by omega) (fun i a b => hA _ (hA1 i a b).1) (fun i j a b c e => by have := h.dis (by omega) (by omega) (by omega) c e; omega)
        (fun i a b => by rw [if_pos (hp.c1 i a b)]) (fun v hv => by
          rw [if_neg]
          intro e
          obtain ⟨i, a, b, c⟩ := hK1 v e
          exact hv i a b c)]
      omega
    · rw [ubo _ _ _ (by omega), ubo _ _ _ (by omega), ← hk.cnt k k0 (by omega)]
      refine sumF_congr fun v v0 v1 => ?_
      show (if comp1 v = k then (1 : Int) else 0) = if comp v = k then 1 else 0
      rcases hparts v with ⟨i, a, b, rfl⟩ | hc
      · rw [if_neg (by rw [hp.c1 i a b]; omega), if_neg (by rw [(hA1 i a b).2.1]; omega)]
      · rw [hp.c2 v hc]
  · rcases hge v hv with h1 | h1
    · obtain ⟨i, a, b, c⟩ := hk.sur v h1
      exact ⟨i, a, by omega, by rw [hf1 i a b]; exact c⟩
    · obtain ⟨i, a, b, c⟩ := hK1 v h1
      exact ⟨(m : Int) + ((r : Int) - 1 - i), by omega, by omega, by rw [hf2 i a b]; exact c⟩

/-! ### The measure -/
def tmu (n : Nat) (f pr : Int → Int) (seen : Int) (d : Nat) : Nat := (sumF (fun v => f (v + 1) - pr v) n + 2 * ((n : Int) - seen) + d).toNat
theorem Ts.rest (h : Ts n f o cl al A r d m seen st fp idx low pr cc comp on) : 0 ≤ sumF (fun v => f (v + 1) - pr v) n := by
  have := sumF_mono (h := fun _ => 0) (g := fun v => f (v + 1) - pr v) (n := n) fun j a b => by have := h.prb j a b; show 0 ≤ f (j + 1) - pr j; omega
  rw [sumF_zero (h := fun _ => 0) fun _ _ _ => rfl] at this
  exact this
theorem rest_read {u : Int} (h0 : 0 ≤ u) (h1 : u < (n : Int)) : sumF (fun v => f (v + 1) - upd pr u (pr u + 1) v) n = sumF (fun v => f (v + 1) - pr v) n - 1 := by
  have e : (fun v => f (v + 1) - upd pr u (pr u + 1) v) = upd (fun v => f (v + 1) - pr v) u (f (u + 1) - (pr u + 1)) := by
    funext v
    by_cases ev : v = u
    · subst ev; rw [upd_same, upd_same]
    · rw [upd_other _ _ _ ev, upd_other _ _ _ ev]
  rw [e, sumF_upd h0 h1]
  omega
theorem Ts.mu_read (h : Ts n f o cl al A r d m seen st fp idx low pr cc comp on) {u : Int} (h0 : 0 ≤ u) (h1 : u < (n : Int)) (he : pr u < f (u + 1)) : tmu n f (upd pr u (pr u + 1)) seen d < tmu n f pr seen d := by
  have h2 := h.rest
  have h3 := h.seenb
  have h4 : 0 ≤ sumF (fun v => f (v + 1) - upd pr u (pr u + 1) v) n := by
    have := sumF_mono (h := fun _ => 0) (g := fun v => f (v + 1) - upd pr u (pr u + 1) v) (n := n) fun j a b => by
      show 0 ≤ f (j + 1) - upd pr u (pr u + 1) j
      by_cases e : j = u
      · subst e; rw [upd_same]; omega
      · rw [upd_other _ _ _ e]; have := h.prb j a b; omega
    rw [sumF_zero (h := fun _ => 0) fun _ _ _ => rfl] at this
    exact this
  unfold tmu
  rw [rest_read h0 h1] at h4 ⊢
  omega
theorem Ts.mu_visit (h : Ts n f o cl al A r d m seen st fp idx low pr cc comp on) {u : Int} (h0 : 0 ≤ u) (h1 : u < (n : Int)) (he : pr u < f (u + 1)) (hs : seen + 1 ≤ n) : tmu n f (upd pr u (pr u + 1)) (seen + 1) (d + 1) < tmu n f pr seen d := by
  have h2 := h.mu_read h0 h1 he
  have h3 := h.seenb
  unfold tmu at h2 ⊢
  rw [rest_read h0 h1] at h2 ⊢
  omega
theorem Ts.mu_pop (h : Ts n f o cl al A r d m seen st fp idx low pr cc comp on) (hd : 0 < d) : tmu n f pr seen (d - 1) < tmu n f pr seen d := by
  have h2 := h.rest
  have h3 := h.seenb
  unfold tmu
  omega

/-! ### The beginning -/
theorem Ts.start (hA : ∀ v, A v → 0 ≤ v ∧ v < (n : Int)) (hfm : ∀ v, 0 ≤ v → v < (n : Int) → f v ≤ f (v + 1)) (hc : ∀ v, comp v ≤ 0) : Ts n f o cl al A 0 0 0 0 st fp (fun _ => 0) low f cc comp (fun _ => false) where
  A1 := fun i a b => by omega
  inc := fun i j a b c => by omega
  on1 := fun v => ⟨fun h => by simp at h, fun ⟨i, a, b, _⟩ => by omega⟩
  vis := fun v _ _ hi => absurd rfl hi
  tkv := fun v hv => by have := hc v; omega
  idb := fun v => ⟨Int.le_refl _, Int.le_refl _⟩
  out := fun v _ => rfl
  fpb := fun j a b => by omega
  fpi := fun j j' a b c => by omega
  fp0 := fun h => by omega
  d0 := fun _ => rfl
  prb := fun v a b => ⟨Int.le_refl _, hfm v a b⟩
  pr0 := fun v _ _ _ => rfl
  fin := fun v _ hi => absurd rfl hi
  lB := fun i a b => by omega
  lS := fun i a b => by omega
  lC := fun j i a b => by omega
  lD := fun i i' e a b => by omega
  eV := fun v e _ e0 e1 => by omega
  aR := fun j i a b => by omega
  cnt := by rw [sumF_zero]; intro j _ _; rfl
  mr := by omega
theorem Tk.start {comp : Int → Int} (hcA : ∀ v, A v → comp v = 0) (hcO : ∀ v, 0 ≤ v → v < (n : Int) → ¬ A v → comp v = -1) (hc : ∀ v, comp v ≤ 0) : Tk n f o cl al A 1 0 comp (fun _ => 0) (fun _ => 0) (fun _ => n) where
  K1 := Nat.le_refl _
  Km := by omega
  cA := fun v hv => by rw [hcA v hv]; omega
  cO := hcO
  tA := fun v hv => by have := hc v; omega
  eF := fun x e hx => by have := hc x; omega
  sR := fun x y hx => by have := hc x; omega
  b0 := rfl
  e0 := rfl
  tile := fun k a b => by omega
  last := rfl
  seg := fun k i a b => by omega
  inj := fun i j a b c => by omega
  foA := fun i a b => by omega
  cnt := fun k a b => by omega
  sur := fun v hv => by have := hc v; omega

/-! ### The state of a split, and its end -/
def AL (n : Nat) (ou : Int → Bool) (v : Int) : Prop := 0 ≤ v ∧ v < (n : Int) ∧ ou v = false
theorem Ts.all_taken {ou : Int → Bool} (h : Ts n f o cl al (AL n ou) 0 d m seen st fp idx low pr cc comp on) (hk : Tk n f o cl al (AL n ou) K m comp fo beg en) (hall : ∀ i, 0 ≤ i → i < (n : Int) → AL n ou i → idx i ≠ 0) :
    (∀ v, AL n ou v → 1 ≤ comp v) ∧ (m : Int) = sumF (fun v => if ou v = true then 0 else 1) n ∧ (∀ v, on v = false) := by
  refine ⟨fun v hv => ?_, ?_, fun v => ?_⟩
  · by_cases hc : comp v = 0
    · obtain ⟨i, a, b, _⟩ := h.vis v hv hc (hall v hv.1 hv.2.1 hv)
      omega
    · have := hk.cA v hv; omega
  · have h1 := h.mr
    have h2 : seen = sumF (fun v => if ou v = true then 0 else 1) n := by
      rw [h.cnt]
      refine sumF_congr fun v v0 v1 => ?_
      show (if idx v = 0 then (0 : Int) else 1) = if ou v = true then 0 else 1
      by_cases ho : ou v = true
      · rw [if_pos ho, if_pos (h.out v fun ha => by have := ha.2.2; rw [ho] at this; cases this)]
      · rw [if_neg ho, if_neg (hall v v0 v1 ⟨v0, v1, by simpa using ho⟩)]
    omega
  · cases hc : on v with
    | false => rfl
    | true =>
      obtain ⟨i, a, b, _⟩ := (h.on1 v).1 hc
      omega
theorem Ts.reset {ou : Int → Bool} (h : Ts n f o cl al (AL n ou) 0 d m seen st fp idx low pr cc comp on) (hk : Tk n f o cl al (AL n ou) K m comp fo beg en) {g : Int → Int} (h1 : ∀ i, 0 ≤ i → i < (m : Int) → g (fo i) = 0) (h2 : ∀ v, g v = 0 ∨ g v = idx v) : ∀ v, g v = 0 := by
  intro v
  rcases h2 v with e | e
  · exact e
  · by_cases hi : idx v = 0
    · omega
    · by_cases ha : AL n ou v
      · by_cases hc : comp v = 0
        · obtain ⟨i, a, b, _⟩ := h.vis v ha hc hi
          omega
        · obtain ⟨i, a, b, rfl⟩ := hk.sur v (by have := hk.cA v ha; omega)
          exact h1 i a b
      · exact absurd (h.out v ha) hi
end
end Go.Proofs.Qxb6001307a
