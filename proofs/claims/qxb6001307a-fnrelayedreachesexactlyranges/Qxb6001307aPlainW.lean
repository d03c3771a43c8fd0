/-
  OWN WORK. Tarjan's algorithm, with no Go in sight: an edge read, a frame popped, a component taken.
-/
import Derived.Test.Qxb6001307aPlainV
namespace Go.Proofs.Qxb6001307a
set_option linter.unusedSimpArgs false
set_option linter.unusedVariables false

theorem upd_self {α : Type} (f : Int → α) (m : Int) : upd f m (f m) = f := by
  funext i
  by_cases e : i = m
  · subst e; exact upd_same _ _ _
  · exact upd_other _ _ _ e

section
variable {n : Nat} {f o cl : Int → Int} {al : Int} {A : Int → Prop} {r d m : Nat} {seen : Int} {st fp idx low pr cc comp : Int → Int} {on : Int → Bool}

/-- An edge of the top frame is read; its end is no news. -/
theorem Ts.read (h : Ts n f o cl al A r d m seen st fp idx low pr cc comp on) (hA : ∀ v, A v → 0 ≤ v ∧ v < (n : Int)) (hd : 0 < d) {u z : Int} (hu : u = st (fp ((d : Int) - 1))) (he : pr u < f (u + 1)) (hz : z ≤ low u)
    (hz2 : z = low u ∨ ∃ i', 0 ≤ i' ∧ i' ≤ fp ((d : Int) - 1) ∧ z = idx (st i') ∧ Reach (Ed f o cl al A) u (st i'))
    (hnew : band (cl (pr u)) al ≠ 0 → A (o (pr u)) → idx (o (pr u)) ≠ 0 ∧ ∀ i', 0 ≤ i' → i' < (r : Int) → o (pr u) = st i' → z ≤ idx (st i')) :
    Ts n f o cl al A r d m seen st fp idx (upd low u z) (upd pr u (pr u + 1)) (upd cc (2 * ((d : Int) - 1) + 1) (pr u + 1)) comp on := by
  have hb := h.fpb ((d : Int) - 1) (by omega) (by omega)
  have hu1 := h.A1 _ hb.1 hb.2.1
  rw [← hu] at hu1
  have hun := hA _ hu1.1
  have lwo : ∀ x, x ≠ u → upd low u z x = low x := fun x a => upd_other _ _ _ a
  have lwn : upd low u z u = z := upd_same _ _ _
  have lle : ∀ x, upd low u z x ≤ low x := fun x => by
    by_cases e : x = u
    · subst e; rw [lwn]; exact hz
    · rw [lwo x e]; omega
  have hpos : ∀ i, 0 ≤ i → i < (r : Int) → st i = u → i = fp ((d : Int) - 1) := fun i a b e => h.dis a hb.1 b hb.2.1 (by rw [e, hu])
  refine ⟨h.A1, h.inc, h.on1, h.vis, h.tkv, h.idb, h.out, ?_, h.fpi, h.fp0, h.d0, ?_, ?_, ?_, ?_, ?_, ?_, ?_, ?_, h.aR, h.cnt, h.mr⟩
  · intro j a b
    have hj := h.fpb j a b
    by_cases ej : j = (d : Int) - 1
    · subst ej
      rw [upd_other _ _ _ (by omega), upd_same, ← hu, upd_same]
      exact ⟨hj.1, hj.2.1, by rw [hu]; exact hj.2.2.1, rfl⟩
    · have hne : st (fp j) ≠ u := fun e2 => by
        have := hpos _ hj.1 hj.2.1 e2
        have := h.fpi j ((d : Int) - 1) a (by omega) (by omega)
        omega
      rw [upd_other _ _ _ (by omega), upd_other _ _ _ (by omega), upd_other _ _ _ hne]
      exact hj
  · intro x x0 x1
    have := h.prb x x0 x1
    by_cases e : x = u
    · subst e; rw [upd_same]; omega
    · rw [upd_other _ _ _ e]; exact this
  · intro x x0 x1 xi
    have e : x ≠ u := fun e => by subst e; omega
    rw [upd_other _ _ _ e]; exact h.pr0 x x0 x1 xi
  · intro x xa xi
    by_cases e : x = u
    · subst e; exact .inr ⟨(d : Int) - 1, by omega, by omega, hu.symm⟩
    · rw [upd_other _ _ _ e]; exact h.fin x xa xi
  · intro i a b
    by_cases e : st i = u
    · rw [e, lwn]
      obtain rfl := hpos i a b e
      rcases hz2 with hz2 | ⟨i', c1, c2, c3, c4⟩
      · obtain ⟨i', c1, c2, c3, c4⟩ := h.lB _ a b
        rw [e] at c3 c4
        exact ⟨i', c1, c2, by omega, c4⟩
      · exact ⟨i', c1, c2, c3, c4⟩
    · rw [lwo _ e]; exact h.lB i a b
  · intro i a b hj
    have := h.lS i a b hj
    have := lle (st i)
    omega
  · intro j i a b c e1 e2
    have hj := h.fpb j a b
    have h1 := h.lC j i a b c e1 e2
    by_cases e : st i = u
    · have hi := hpos i (by omega) e1 e
      have : fp j = i := by
        by_cases ej : j = (d : Int) - 1
        · rw [ej, hi]
        · have h2 := e2 (by omega)
          have : fp (j + 1) ≤ fp ((d : Int) - 1) := by
            by_cases ej2 : j + 1 = (d : Int) - 1
            · rw [ej2]; omega
            · have := h.fpi (j + 1) ((d : Int) - 1) (by omega) (by omega) (by omega); omega
          omega
      rw [this]; omega
    · rw [lwo (st i) e]; have := lle (st (fp j)); omega
  · intro i i' e a b a' b' e0 e1 e2 e3
    have hlle := lle (st i)
    by_cases ei : st i = u
    · rw [ei] at e0 e1 ⊢
      rw [upd_same] at e1
      rw [lwn]
      by_cases ee : e < pr u
      · have := h.lD i i' e a b a' b' (by rw [ei]; exact e0) (by rw [ei]; exact ee) e2 e3
        rw [ei] at this
        omega
      · obtain rfl : e = pr u := by omega
        exact (hnew e2 (by rw [e3]; exact (h.A1 i' a' b').1)).2 i' a' b' e3
    · rw [upd_other _ _ _ ei] at e1
      have := h.lD i i' e a b a' b' e0 e1 e2 e3
      omega
  · intro x e xa e0 e1 e2 e3
    by_cases ex : x = u
    · subst ex
      rw [upd_same] at e1
      by_cases ee : e < pr x
      · exact h.eV x e xa e0 ee e2 e3
      · obtain rfl : e = pr x := by omega
        exact (hnew e2 e3).1
    · rw [upd_other _ _ _ ex] at e1
      exact h.eV x e xa e0 e1 e2 e3

/-- The top frame has no edge left; it is popped, its node stays. -/
theorem Ts.pop (h : Ts n f o cl al A r d m seen st fp idx low pr cc comp on) (hA : ∀ v, A v → 0 ≤ v ∧ v < (n : Int)) (hd : 0 < d) {u : Int} (hu : u = st (fp ((d : Int) - 1))) (he : pr u = f (u + 1)) (hne : low u ≠ idx u) :
    1 < d ∧ Ts n f o cl al A r (d - 1) m seen st fp idx (upd low (st (fp ((d : Int) - 2))) (if low u < low (st (fp ((d : Int) - 2))) then low u else low (st (fp ((d : Int) - 2))))) pr cc comp on := by
  have hb := h.fpb ((d : Int) - 1) (by omega) (by omega)
  have hd1 : 1 < d := by
    rcases Nat.lt_or_ge 1 d with h1 | h1
    · exact h1
    · exfalso
      have hd' : d = 1 := by omega
      subst hd'
      have h0 := h.fp0 hd
      have e : ((1 : Nat) : Int) - 1 = 0 := by omega
      rw [e, h0] at hu hb
      obtain ⟨i', c1, c2, c3, _⟩ := h.lB 0 (by omega) hb.2.1
      obtain rfl : i' = 0 := by omega
      exact hne (by rw [hu]; exact c3)
  refine ⟨hd1, ?_⟩
  have hlt : low u < idx u := by
    have := h.lowle hb.1 hb.2.1
    rw [← hu] at this
    omega
  have hbp := h.fpb ((d : Int) - 2) (by omega) (by omega)
  have hfi := h.fpi ((d : Int) - 2) ((d : Int) - 1) (by omega) (by omega) (by omega)
  generalize hpp : st (fp ((d : Int) - 2)) = p at *
  generalize hzz : (if low u < low p then low u else low p) = z at *
  have hz1 : z ≤ low p := by rw [← hzz]; split <;> omega
  have hz2 : z ≤ low u := by rw [← hzz]; split <;> omega
  have lwo : ∀ x, x ≠ p → upd low p z x = low x := fun x a => upd_other _ _ _ a
  have lwn : upd low p z p = z := upd_same _ _ _
  have lle : ∀ x, upd low p z x ≤ low x := fun x => by
    by_cases e : x = p
    · subst e; rw [lwn]; exact hz1
    · rw [lwo x e]; omega
  have hpos : ∀ i, 0 ≤ i → i < (r : Int) → st i = p → i = fp ((d : Int) - 2) := fun i a b e => h.dis a hbp.1 b hbp.2.1 (by rw [e, hpp])
  have hcast : ((d - 1 : Nat) : Int) = (d : Int) - 1 := by omega
  refine ⟨h.A1, h.inc, h.on1, h.vis, h.tkv, h.idb, h.out, fun j a b => h.fpb j a (by omega), fun j j' a b c => h.fpi j j' a b (by omega), fun _ => h.fp0 hd, fun e => by omega, h.prb, h.pr0, ?_, ?_, ?_, ?_, ?_, h.eV, fun j i a b => h.aR j i a (by omega), h.cnt, h.mr⟩
  · intro x xa xi
    rcases h.fin x xa xi with h1 | ⟨j, a, b, c⟩
    · exact .inl h1
    · by_cases ej : j = (d : Int) - 1
      · left; subst ej; rw [← c, ← hu]; exact he
      · exact .inr ⟨j, a, by omega, c⟩
  · intro i a b
    by_cases e : st i = p
    · rw [e, lwn]
      obtain rfl := hpos i a b e
      by_cases hc : low u < low p
      · rw [if_pos hc] at hzz
        obtain ⟨i', c1, c2, c3, c4⟩ := h.lB _ hb.1 hb.2.1
        rw [← hu] at c3 c4
        have hle := h.lowle hbp.1 hbp.2.1
        rw [hpp] at hle
        have hi' : i' ≤ fp ((d : Int) - 2) := by
          rcases Int.lt_or_le (fp ((d : Int) - 2)) i' with h1 | h1
          · have := h.inc _ i' a h1 (by omega)
            rw [hpp] at this
            omega
          · exact h1
        have hr1 := h.aR ((d : Int) - 2) (fp ((d : Int) - 1)) (by omega) (by omega) (by omega) hb.2.1
        rw [hpp, ← hu] at hr1
        exact ⟨i', c1, hi', by omega, hr1.trans c4⟩
      · rw [if_neg hc] at hzz
        obtain ⟨i', c1, c2, c3, c4⟩ := h.lB _ a b
        rw [e] at c3 c4
        exact ⟨i', c1, c2, by omega, c4⟩
    · rw [lwo _ e]; exact h.lB i a b
  · intro i a b hj
    by_cases e : i = fp ((d : Int) - 1)
    · subst e
      rw [← hu]
      have := lle u
      omega
    · have h1 := h.lS i a b fun j j0 j1 => by
        by_cases ej : j = (d : Int) - 1
        · subst ej; exact fun e2 => e e2.symm
        · exact hj j j0 (by omega)
      have := lle (st i)
      omega
  · intro j i a b c e1 e2
    have hj := h.fpb j a (by omega)
    by_cases ej : j = (d : Int) - 2
    · subst ej
      rw [hpp, lwn]
      by_cases e : st i = p
      · rw [e, lwn]; omega
      · rw [lwo _ e]
        by_cases hi : i < fp ((d : Int) - 1)
        · have := h.lC ((d : Int) - 2) i (by omega) (by omega) c e1 (fun _ => by rw [show (d : Int) - 2 + 1 = (d : Int) - 1 from by omega]; exact hi)
          rw [hpp] at this
          omega
        · have := h.lC ((d : Int) - 1) i (by omega) (by omega) (by omega) e1 (fun hh => by omega)
          rw [← hu] at this
          omega
    · have hne2 : st (fp j) ≠ p := fun e => by
        have := hpos _ hj.1 hj.2.1 e
        have := h.fpi j ((d : Int) - 2) a (by omega) (by omega)
        omega
      have hi := e2 (by omega)
      have hne3 : st i ≠ p := fun e => by
        have := hpos i (by omega) e1 e
        have : fp (j + 1) ≤ fp ((d : Int) - 2) := by
          by_cases ej2 : j + 1 = (d : Int) - 2
          · rw [ej2]; omega
          · have := h.fpi (j + 1) ((d : Int) - 2) (by omega) (by omega) (by omega); omega
        omega
      rw [lwo _ hne2, lwo _ hne3]
      exact h.lC j i a (by omega) c e1 (fun hh => hi)
  · intro i i' e a b a' b' e0 e1 e2 e3
    have := h.lD i i' e a b a' b' e0 e1 e2 e3
    have := lle (st i)
    omega

/-! ### A component -/
theorem Ts.seg_low (h : Ts n f o cl al A r d m seen st fp idx low pr cc comp on) (hd : 0 < d) {u : Int} (hu : u = st (fp ((d : Int) - 1))) (hne : low u = idx u) {i : Int} (h0 : fp ((d : Int) - 1) ≤ i) (h1 : i < (r : Int)) : idx u ≤ low (st i) := by
  have := h.lC ((d : Int) - 1) i (by omega) (by omega) h0 h1 (fun hh => by omega)
  rw [← hu] at this
  omega
theorem Ts.seg_back (h : Ts n f o cl al A r d m seen st fp idx low pr cc comp on) (hd : 0 < d) {u : Int} (hu : u = st (fp ((d : Int) - 1))) (hne : low u = idx u) (k : Nat) : ∀ i, i = fp ((d : Int) - 1) + k → i < (r : Int) → Reach (Ed f o cl al A) (st i) u := by
  have hb := h.fpb ((d : Int) - 1) (by omega) (by omega)
  induction k using Nat.strongRecOn with
  | _ k ih =>
    intro i hi h1
    by_cases hk : k = 0
    · subst hk
      have e : i = fp ((d : Int) - 1) := by omega
      rw [e, ← hu]; exact Reach.refl _
    · have hs := h.lS i (by omega) h1 fun j j0 j1 e => by
        have : fp j ≤ fp ((d : Int) - 1) := by
          by_cases ej : j = (d : Int) - 1
          · subst ej; omega
          · have := h.fpi j ((d : Int) - 1) j0 (by omega) (by omega); omega
        omega
      obtain ⟨i', c1, c2, c3, c4⟩ := h.lB i (by omega) h1
      have hl := h.seg_low hd hu hne (i := i) (by omega) h1
      have hlt : i' < i := by
        rcases Int.lt_or_eq_of_le c2 with hh | rfl
        · exact hh
        · omega
      have hge : fp ((d : Int) - 1) ≤ i' := by
        rcases Int.lt_or_le i' (fp ((d : Int) - 1)) with hh | hh
        · have := h.inc i' _ c1 hh hb.2.1
          rw [← hu] at this
          omega
        · exact hh
      exact c4.trans (ih (i' - fp ((d : Int) - 1)).toNat (by omega) i' (by omega) (by omega))
theorem Ts.seg_edge (h : Ts n f o cl al A r d m seen st fp idx low pr cc comp on) (hc0 : ∀ v, A v → 0 ≤ comp v) (hd : 0 < d) {u : Int} (hu : u = st (fp ((d : Int) - 1))) (he : pr u = f (u + 1)) (hne : low u = idx u) {i e : Int} (h0 : fp ((d : Int) - 1) ≤ i) (h1 : i < (r : Int))
    (e0 : f (st i) ≤ e) (e1 : e < f (st i + 1)) (e2 : band (cl e) al ≠ 0) (e3 : A (o e)) : 1 ≤ comp (o e) ∨ ∃ i', fp ((d : Int) - 1) ≤ i' ∧ i' < (r : Int) ∧ o e = st i' := by
  have hb := h.fpb ((d : Int) - 1) (by omega) (by omega)
  have ha := h.A1 i (by omega) h1
  have hpr : pr (st i) = f (st i + 1) := by
    by_cases ei : i = fp ((d : Int) - 1)
    · rw [ei, ← hu]; exact he
    · rcases h.fin (st i) ha.1 (by omega) with hf | ⟨j, j0, j1, j2⟩
      · exact hf
      · exfalso
        have hj := h.fpb j j0 j1
        have := h.dis hj.1 (by omega) hj.2.1 h1 j2
        have : fp j ≤ fp ((d : Int) - 1) := by
          by_cases ej : j = (d : Int) - 1
          · subst ej; omega
          · have := h.fpi j ((d : Int) - 1) j0 (by omega) (by omega); omega
        omega
  have hv := h.eV (st i) e ha.1 e0 (by omega) e2 e3
  by_cases hcz : comp (o e) = 0
  · right
    obtain ⟨i', c1, c2, c3⟩ := h.vis (o e) e3 hcz hv
    have hl := h.seg_low hd hu hne h0 h1
    have hD := h.lD i i' e (by omega) h1 c1 c2 e0 (by omega) e2 c3.symm
    refine ⟨i', ?_, c2, c3.symm⟩
    rcases Int.lt_or_le i' (fp ((d : Int) - 1)) with hh | hh
    · have := h.inc i' _ c1 hh hb.2.1
      rw [← hu] at this
      omega
    · exact hh
  · left; have := hc0 (o e) e3; omega
/-- .. is taken. -/
theorem Ts.take (h : Ts n f o cl al A r d m seen st fp idx low pr cc comp on) (hA : ∀ v, A v → 0 ≤ v ∧ v < (n : Int)) (hd : 0 < d) {u : Int} (hu : u = st (fp ((d : Int) - 1))) (he : pr u = f (u + 1)) (hne : low u = idx u) {t K : Nat} (ht : (t : Int) = fp ((d : Int) - 1)) (hK : 1 ≤ K)
    {comp1 : Int → Int} {on1 : Int → Bool} (hp : Popped t r n K st comp on comp1 on1) : Ts n f o cl al A t (d - 1) (m + (r - t)) seen st fp idx low pr cc comp1 on1 := by
  have hb := h.fpb ((d : Int) - 1) (by omega) (by omega)
  have hcast : ((d - 1 : Nat) : Int) = (d : Int) - 1 := by omega
  have hstay : ∀ i, 0 ≤ i → i < (t : Int) → comp1 (st i) = comp (st i) := fun i a b => hp.c2 _ fun i' a' b' e => by
    have := h.dis (by omega) a b' (by omega) e; omega
  have hfr : ∀ j, 0 ≤ j → j < (d : Int) - 1 → fp j < (t : Int) := fun j a b => by have := h.fpi j ((d : Int) - 1) a b (by omega); omega
  have hparts : ∀ v, (∃ i, (t : Int) ≤ i ∧ i < (r : Int) ∧ st i = v) ∨ (∀ i, (t : Int) ≤ i → i < (r : Int) → st i ≠ v) := by
    intro v
    by_cases hc : ∃ i, (t : Int) ≤ i ∧ i < (r : Int) ∧ st i = v
    · exact .inl hc
    · exact .inr fun i h0 h1 he => hc ⟨i, h0, h1, he⟩
  refine ⟨fun i a b => ?_, fun i j a b c => h.inc i j a b (by omega), fun v => ?_, fun v va vc vi => ?_, fun v vc => ?_, h.idb, h.out, fun j a b => ?_, fun j j' a b c => h.fpi j j' a b (by omega), fun _ => h.fp0 hd, fun e => ?_, h.prb, h.pr0, fun v va vi => ?_, fun i a b => h.lB i a (by omega), fun i a b hj => ?_, fun j i a b c e1 e2 => ?_,
    fun i i' e a b a' b' => h.lD i i' e a (by omega) a' (by omega), h.eV, fun j i a b c e => h.aR j i a (by omega) c (by omega), h.cnt, by have := h.mr; omega⟩
  · rw [hstay i a b]; exact h.A1 i a (by omega)
  · rcases hparts v with ⟨i, a, b, rfl⟩ | hv
    · rw [hp.o1 i a b]
      constructor
      · intro e; cases e
      · rintro ⟨i', a', b', e⟩
        have := h.dis a' (by omega) (by omega) b e; omega
    · rw [hp.o2 v hv, h.on1 v]
      constructor
      · rintro ⟨i, a, b, c⟩
        refine ⟨i, a, ?_, c⟩
        rcases Int.lt_or_le i (t : Int) with hh | hh
        · exact hh
        · exact absurd c (hv i hh b)
      · rintro ⟨i, a, b, c⟩; exact ⟨i, a, by omega, c⟩
  · rcases hparts v with ⟨i, a, b, rfl⟩ | hv
    · rw [hp.c1 i a b] at vc; omega
    · rw [hp.c2 v hv] at vc
      obtain ⟨i, a, b, c⟩ := h.vis v va vc vi
      refine ⟨i, a, ?_, c⟩
      rcases Int.lt_or_le i (t : Int) with hh | hh
      · exact hh
      · exact absurd c (hv i hh b)
  · rcases hparts v with ⟨i, a, b, rfl⟩ | hv
    · have := (h.A1 i (by omega) b).2.2; omega
    · rw [hp.c2 v hv] at vc; exact h.tkv v vc
  · have hj := h.fpb j a (by omega)
    exact ⟨hj.1, hfr j a (by omega), hj.2.2⟩
  · have := h.fp0 hd
    have e1 : (d : Int) - 1 = 0 := by omega
    rw [e1, this] at ht
    omega
  · rcases h.fin v va vi with h1 | ⟨j, a, b, c⟩
    · exact .inl h1
    · by_cases ej : j = (d : Int) - 1
      · left; subst ej; rw [← c, ← hu]; exact he
      · exact .inr ⟨j, a, by omega, c⟩
  · refine h.lS i a (by omega) fun j j0 j1 e => ?_
    by_cases ej : j = (d : Int) - 1
    · subst ej; omega
    · exact hj j j0 (by omega) e
  · refine h.lC j i a (by omega) c (by omega) fun hh => ?_
    by_cases ej : j + 1 = (d : Int) - 1
    · rw [ej]; omega
    · exact e2 (by omega)
/-- .. and the parent's low stays. -/
theorem Ts.low_stays (h : Ts n f o cl al A r d m seen st fp idx low pr cc comp on) (hd : 1 < d) {u : Int} (hu : u = st (fp ((d : Int) - 1))) (hne : low u = idx u) :
    upd low (st (fp ((d : Int) - 2))) (if low u < low (st (fp ((d : Int) - 2))) then low u else low (st (fp ((d : Int) - 2)))) = low := by
  have hb := h.fpb ((d : Int) - 1) (by omega) (by omega)
  have hbp := h.fpb ((d : Int) - 2) (by omega) (by omega)
  have hfi := h.fpi ((d : Int) - 2) ((d : Int) - 1) (by omega) (by omega) (by omega)
  have h1 := h.lowle hbp.1 hbp.2.1
  have h2 := h.inc _ _ hbp.1 hfi hb.2.1
  rw [← hu] at h2
  rw [if_neg (by omega), upd_self]
end
end Go.Proofs.Qxb6001307a
