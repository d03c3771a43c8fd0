/-
  OWN WORK. Tarjan's algorithm, with no Go in sight: what holds between its steps.
-/
import Derived.Test.Qxb6001307aPlainU
namespace Go.Proofs.Qxb6001307a
set_option linter.unusedSimpArgs false
set_option linter.unusedVariables false

/-! ### Ways -/
def Way (E : Int → Int → Prop) : Nat → Int → Int → Prop
  | 0, u, v => u = v
  | k + 1, u, v => ∃ x, E u x ∧ Way E k x v
def Reach (E : Int → Int → Prop) (u v : Int) : Prop := ∃ k, Way E k u v
theorem Reach.refl {E : Int → Int → Prop} (u : Int) : Reach E u u := ⟨0, rfl⟩
theorem Way.trans {E : Int → Int → Prop} : ∀ (k : Nat) {j : Nat} {u v x : Int}, Way E k u v → Way E j v x → Way E (k + j) u x
  | 0, j, u, v, x, h1, h2 => by
    obtain rfl : u = v := h1
    rw [Nat.zero_add]; exact h2
  | k + 1, j, u, v, x, ⟨y, hy, h1⟩, h2 => by
    rw [show k + 1 + j = (k + j) + 1 from by omega]
    exact ⟨y, hy, Way.trans k h1 h2⟩
theorem Reach.trans {E : Int → Int → Prop} {u v x : Int} (h1 : Reach E u v) (h2 : Reach E v x) : Reach E u x := by
  obtain ⟨k, h1⟩ := h1
  obtain ⟨j, h2⟩ := h2
  exact ⟨k + j, Way.trans k h1 h2⟩
theorem Reach.one {E : Int → Int → Prop} {u v : Int} (h : E u v) : Reach E u v := ⟨1, v, h, rfl⟩
theorem Reach.step {E : Int → Int → Prop} {u v x : Int} (h1 : Reach E u v) (h2 : E v x) : Reach E u x := h1.trans (.one h2)
/-- What every edge keeps, every way keeps. -/
theorem Reach.keep {E : Int → Int → Prop} {S : Int → Prop} (hS : ∀ u v, S u → E u v → S v) {u v : Int} (h : Reach E u v) (hu : S u) : S v := by
  obtain ⟨k, h⟩ := h
  induction k generalizing u with
  | zero => obtain rfl : u = v := h; exact hu
  | succ k ih =>
    obtain ⟨x, hx, h⟩ := h
    exact ih (hS u x hu hx) h

def Ed (f o cl : Int → Int) (al : Int) (A : Int → Prop) (u v : Int) : Prop := ∃ e, f u ≤ e ∧ e < f (u + 1) ∧ band (cl e) al ≠ 0 ∧ o e = v ∧ A u ∧ A v

/-! ### Sums over all nodes -/
theorem sumF_upd {h : Int → Int} {n : Nat} {v z : Int} (h0 : 0 ≤ v) (h1 : v < (n : Int)) : sumF (upd h v z) n = sumF h n + (z - h v) := by
  induction n with
  | zero => omega
  | succ n ih =>
    simp only [sumF]
    by_cases e : v = (n : Int)
    · subst e
      rw [upd_same, sumF_congr (g := h) fun j _ hj => upd_other _ _ _ (by omega)]
      omega
    · rw [ih (by omega), upd_other _ _ _ (by omega)]
      omega
theorem sumF_mono {h g : Int → Int} {n : Nat} (hb : ∀ j, 0 ≤ j → j < (n : Int) → h j ≤ g j) : sumF h n ≤ sumF g n := by
  induction n with
  | zero => simp [sumF]
  | succ n ih =>
    simp only [sumF]
    have := ih fun j a b => hb j a (by omega)
    have := hb (n : Int) (by omega) (by omega)
    omega
/-! ### What stands on the stack -/
structure Ts (n : Nat) (f o cl : Int → Int) (al : Int) (A : Int → Prop) (r d m : Nat) (seen : Int) (st fp idx low pr cc comp : Int → Int) (on : Int → Bool) : Prop where
  A1 : ∀ i, 0 ≤ i → i < (r : Int) → A (st i) ∧ comp (st i) = 0 ∧ 1 ≤ idx (st i)
  inc : ∀ i j, 0 ≤ i → i < j → j < (r : Int) → idx (st i) < idx (st j)
  on1 : ∀ v, on v = true ↔ ∃ i, 0 ≤ i ∧ i < (r : Int) ∧ st i = v
  vis : ∀ v, A v → comp v = 0 → idx v ≠ 0 → ∃ i, 0 ≤ i ∧ i < (r : Int) ∧ st i = v
  tkv : ∀ v, 1 ≤ comp v → idx v ≠ 0
  idb : ∀ v, 0 ≤ idx v ∧ idx v ≤ seen
  out : ∀ v, ¬ A v → idx v = 0
  fpb : ∀ j, 0 ≤ j → j < (d : Int) → 0 ≤ fp j ∧ fp j < (r : Int) ∧ cc (2 * j) = st (fp j) ∧ cc (2 * j + 1) = pr (st (fp j))
  fpi : ∀ j j', 0 ≤ j → j < j' → j' < (d : Int) → fp j < fp j'
  fp0 : 0 < d → fp 0 = 0
  d0 : d = 0 → r = 0
  prb : ∀ v, 0 ≤ v → v < (n : Int) → f v ≤ pr v ∧ pr v ≤ f (v + 1)
  pr0 : ∀ v, 0 ≤ v → v < (n : Int) → idx v = 0 → pr v = f v
  fin : ∀ v, A v → idx v ≠ 0 → pr v = f (v + 1) ∨ ∃ j, 0 ≤ j ∧ j < (d : Int) ∧ st (fp j) = v
  lB : ∀ i, 0 ≤ i → i < (r : Int) → ∃ i', 0 ≤ i' ∧ i' ≤ i ∧ low (st i) = idx (st i') ∧ Reach (Ed f o cl al A) (st i) (st i')
  lS : ∀ i, 0 ≤ i → i < (r : Int) → (∀ j, 0 ≤ j → j < (d : Int) → fp j ≠ i) → low (st i) < idx (st i)
  lC : ∀ j i, 0 ≤ j → j < (d : Int) → fp j ≤ i → i < (r : Int) → (j + 1 < (d : Int) → i < fp (j + 1)) → low (st (fp j)) ≤ low (st i)
  lD : ∀ i i' e, 0 ≤ i → i < (r : Int) → 0 ≤ i' → i' < (r : Int) → f (st i) ≤ e → e < pr (st i) → band (cl e) al ≠ 0 → o e = st i' → low (st i) ≤ idx (st i')
  eV : ∀ v e, A v → f v ≤ e → e < pr v → band (cl e) al ≠ 0 → A (o e) → idx (o e) ≠ 0
  aR : ∀ j i, 0 ≤ j → j < (d : Int) → fp j ≤ i → i < (r : Int) → Reach (Ed f o cl al A) (st (fp j)) (st i)
  cnt : seen = sumF (fun v => if idx v = 0 then 0 else 1) n
  mr : (m : Int) + r = seen

section
variable {n : Nat} {f o cl : Int → Int} {al : Int} {A : Int → Prop} {r d m : Nat} {seen : Int} {st fp idx low pr cc comp : Int → Int} {on : Int → Bool}
theorem Ts.dis (h : Ts n f o cl al A r d m seen st fp idx low pr cc comp on) {i j : Int} (h0 : 0 ≤ i) (h1 : 0 ≤ j) (h2 : i < (r : Int)) (h3 : j < (r : Int)) (he : st i = st j) : i = j := by
  rcases Int.lt_trichotomy i j with hlt | heq | hgt
  · have := h.inc i j h0 hlt h3; rw [he] at this; omega
  · exact heq
  · have := h.inc j i h1 hgt h2; rw [he] at this; omega
theorem Ts.lowle (h : Ts n f o cl al A r d m seen st fp idx low pr cc comp on) {i : Int} (h0 : 0 ≤ i) (h1 : i < (r : Int)) : low (st i) ≤ idx (st i) := by
  obtain ⟨i', a, b, c, _⟩ := h.lB i h0 h1
  rcases Int.lt_or_eq_of_le b with hlt | rfl
  · have := h.inc i' i a hlt h1; omega
  · omega
theorem Ts.seenb (h : Ts n f o cl al A r d m seen st fp idx low pr cc comp on) : 0 ≤ seen ∧ seen ≤ n := by
  have := sumF_bound (h := fun v => if idx v = 0 then 0 else 1) (lo := 0) (hi := 1) (n := n) (fun j _ _ => by constructor <;> split <;> omega)
  rw [← h.cnt] at this
  omega

/-- A visit: of a root, or behind an edge of the top frame. -/
theorem Ts.visit (h : Ts n f o cl al A r d m seen st fp idx low pr cc comp on) (hA : ∀ v, A v → 0 ≤ v ∧ v < (n : Int)) (hfm : ∀ v, 0 ≤ v → v < (n : Int) → f v ≤ f (v + 1)) {v : Int} (hv : A v) (hc : comp v = 0) (hi : idx v = 0) (pr1 cc1 : Int → Int)
    (hp : (d = 0 ∧ pr1 = pr ∧ cc1 = cc) ∨ (0 < d ∧ pr1 = upd pr (st (fp ((d : Int) - 1))) (pr (st (fp ((d : Int) - 1))) + 1) ∧ cc1 = upd cc (2 * ((d : Int) - 1) + 1) (pr (st (fp ((d : Int) - 1))) + 1) ∧ pr (st (fp ((d : Int) - 1))) < f (st (fp ((d : Int) - 1)) + 1) ∧ band (cl (pr (st (fp ((d : Int) - 1))))) al ≠ 0 ∧ o (pr (st (fp ((d : Int) - 1)))) = v)) :
    Ts n f o cl al A (r + 1) (d + 1) m (seen + 1) (upd st r v) (upd fp d r) (upd idx v (seen + 1)) (upd low v (seen + 1)) pr1 (upd (upd cc1 (2 * (d : Int)) v) (2 * (d : Int) + 1) (f v)) comp (upd on v true) := by
  have hnv : ∀ i, 0 ≤ i → i < (r : Int) → st i ≠ v := fun i a b e => by have := (h.A1 i a b).2.2; rw [e] at this; omega
  have sto : ∀ i, i < (r : Int) → upd st r v i = st i := fun i a => upd_other _ _ _ (by omega)
  have stn : upd st r v (r : Int) = v := upd_same _ _ _
  have ixo : ∀ x, x ≠ v → upd idx v (seen + 1) x = idx x := fun x a => upd_other _ _ _ a
  have ixn : upd idx v (seen + 1) v = seen + 1 := upd_same _ _ _
  have lwo : ∀ x, x ≠ v → upd low v (seen + 1) x = low x := fun x a => upd_other _ _ _ a
  have lwn : upd low v (seen + 1) v = seen + 1 := upd_same _ _ _
  have fpo : ∀ j, j < (d : Int) → upd fp d r j = fp j := fun j a => upd_other _ _ _ (by omega)
  have fpn : upd fp d r (d : Int) = r := upd_same _ _ _
  have hsb := h.seenb
  have hvn := hA v hv
  -- the edges read so far: the old ones, and the one to v
  have pro : ∀ x e, 0 ≤ x → x < (n : Int) → f x ≤ e → e < pr1 x → e < pr x ∨ (x ≠ v ∧ o e = v) := by
    intro x e x0 x1 he0 he1
    rcases hp with ⟨_, rfl, _⟩ | ⟨hd, rfl, _, h3, h4, h5⟩
    · exact .inl he1
    · by_cases ex : x = st (fp ((d : Int) - 1))
      · subst ex
        rw [upd_same] at he1
        by_cases e2 : e < pr (st (fp ((d : Int) - 1)))
        · exact .inl e2
        · right
          obtain rfl : e = pr (st (fp ((d : Int) - 1))) := by omega
          have hb := h.fpb ((d : Int) - 1) (by omega) (by omega)
          exact ⟨hnv _ hb.1 hb.2.1, h5⟩
      · rw [upd_other _ _ _ ex] at he1
        exact .inl he1
  have prv : pr1 v = f v := by
    rcases hp with ⟨_, rfl, _⟩ | ⟨hd, rfl, _, h3, h4, h5⟩
    · exact h.pr0 v hvn.1 hvn.2 hi
    · have hb := h.fpb ((d : Int) - 1) (by omega) (by omega)
      rw [upd_other _ _ _ (fun e => hnv _ hb.1 hb.2.1 e.symm)]
      exact h.pr0 v hvn.1 hvn.2 hi
  have hrv : ∀ j, 0 ≤ j → j < (d : Int) → Reach (Ed f o cl al A) (st (fp j)) v := by
    intro j j0 j1
    rcases hp with ⟨hd, _⟩ | ⟨hd, rfl, _, h3, h4, h5⟩
    · omega
    · have hb := h.fpb ((d : Int) - 1) (by omega) (by omega)
      have hle : fp j ≤ fp ((d : Int) - 1) := by
        by_cases e : j = (d : Int) - 1
        · subst e; omega
        · have := h.fpi j ((d : Int) - 1) j0 (by omega) (by omega); omega
      have hu := h.A1 _ hb.1 hb.2.1
      have hub := hA _ hu.1
      exact (h.aR j _ j0 j1 hle hb.2.1).step ⟨_, (h.prb _ hub.1 hub.2).1, h3, h4, h5, hu.1, hv⟩
  constructor
  · intro i a b
    by_cases e : i = (r : Int)
    · subst e; rw [stn, ixn]; exact ⟨hv, hc, by omega⟩
    · rw [sto i (by omega), ixo _ (hnv i a (by omega))]; exact h.A1 i a (by omega)
  · intro i j a b c
    rw [sto i (by omega), ixo _ (hnv i a (by omega))]
    by_cases e : j = (r : Int)
    · subst e; rw [stn, ixn]; have := (h.idb (st i)).2; omega
    · rw [sto j (by omega), ixo _ (hnv j (by omega) (by omega))]; exact h.inc i j a b (by omega)
  · intro x
    by_cases e : x = v
    · subst e; rw [upd_same]; exact ⟨fun _ => ⟨r, by omega, by omega, stn⟩, fun _ => rfl⟩
    · rw [upd_other _ _ _ e, h.on1 x]
      constructor
      · rintro ⟨i, a, b, c⟩; exact ⟨i, a, by omega, by rw [sto i b]; exact c⟩
      · rintro ⟨i, a, b, c⟩
        by_cases ei : i = (r : Int)
        · subst ei; rw [stn] at c; exact absurd c.symm e
        · rw [sto i (by omega)] at c; exact ⟨i, a, by omega, c⟩
  · intro x xa xc xi
    by_cases e : x = v
    · subst e; exact ⟨r, by omega, by omega, stn⟩
    · rw [ixo x e] at xi
      obtain ⟨i, a, b, c⟩ := h.vis x xa xc xi
      exact ⟨i, a, by omega, by rw [sto i b]; exact c⟩
  · intro x xc
    by_cases e : x = v
    · subst e; omega
    · rw [ixo x e]; exact h.tkv x xc
  · intro x
    by_cases e : x = v
    · subst e; rw [ixn]; omega
    · rw [ixo x e]; have := h.idb x; omega
  · intro x xa
    have e : x ≠ v := fun e => xa (by rw [e]; exact hv)
    rw [ixo x e]; exact h.out x xa
  · intro j a b
    by_cases e : j = (d : Int)
    · subst e
      rw [fpn, stn, prv, upd_same, upd_other _ _ _ (by omega), upd_same]
      exact ⟨by omega, by omega, rfl, rfl⟩
    · have hj := h.fpb j a (by omega)
      rw [fpo j (by omega), sto _ hj.2.1, upd_other _ _ _ (by omega), upd_other _ _ _ (by omega), upd_other _ _ _ (by omega), upd_other _ _ _ (by omega)]
      refine ⟨hj.1, by omega, ?_⟩
      rcases hp with ⟨hd, rfl, rfl⟩ | ⟨hd, rfl, rfl, h3, h4, h5⟩
      · exact hj.2.2
      · by_cases ej : j = (d : Int) - 1
        · subst ej
          rw [upd_other _ _ _ (by omega), upd_same, upd_same]
          exact ⟨hj.2.2.1, rfl⟩
        · have hne : st (fp j) ≠ st (fp ((d : Int) - 1)) := fun e2 => by
            have hl := h.fpb ((d : Int) - 1) (by omega) (by omega)
            have := h.dis hj.1 hl.1 hj.2.1 hl.2.1 e2
            have := h.fpi j ((d : Int) - 1) a (by omega) (by omega)
            omega
          rw [upd_other _ _ _ (by omega), upd_other _ _ _ (by omega), upd_other _ _ _ hne]
          exact hj.2.2
  · intro j j' a b c
    rw [fpo j (by omega)]
    by_cases e : j' = (d : Int)
    · subst e; rw [fpn]; exact (h.fpb j a b).2.1
    · rw [fpo j' (by omega)]; exact h.fpi j j' a b (by omega)
  · intro _
    by_cases hd : d = 0
    · subst hd
      have := h.d0 rfl
      subst this
      exact upd_same _ _ _
    · rw [fpo 0 (by omega)]; exact h.fp0 (by omega)
  · intro hd; omega
  · intro x x0 x1
    rcases hp with ⟨hd, rfl, rfl⟩ | ⟨hd, rfl, rfl, h3, h4, h5⟩
    · exact h.prb x x0 x1
    · by_cases e : x = st (fp ((d : Int) - 1))
      · subst e
        rw [upd_same]
        have := h.prb _ x0 x1
        omega
      · rw [upd_other _ _ _ e]; exact h.prb x x0 x1
  · intro x x0 x1 xi
    by_cases e : x = v
    · subst e; exact prv
    · rw [ixo x e] at xi
      rcases hp with ⟨hd, rfl, rfl⟩ | ⟨hd, rfl, rfl, h3, h4, h5⟩
      · exact h.pr0 x x0 x1 xi
      · have hb := h.fpb ((d : Int) - 1) (by omega) (by omega)
        have h2 := (h.A1 _ hb.1 hb.2.1).2.2
        rw [upd_other _ _ _ (fun e => by rw [e] at xi; omega)]
        exact h.pr0 x x0 x1 xi
  · intro x xa xi
    by_cases e : x = v
    · subst e; exact .inr ⟨d, by omega, by omega, by rw [fpn, stn]⟩
    · rw [ixo x e] at xi
      rcases h.fin x xa xi with h1 | ⟨j, a, b, c⟩
      · rcases hp with ⟨hd, rfl, rfl⟩ | ⟨hd, rfl, rfl, h3, h4, h5⟩
        · exact .inl h1
        · by_cases e2 : x = st (fp ((d : Int) - 1))
          · subst e2; omega
          · left; rw [upd_other _ _ _ e2]; exact h1
      · exact .inr ⟨j, a, by omega, by rw [fpo j b, sto _ (h.fpb j a b).2.1]; exact c⟩
  · intro i a b
    by_cases e : i = (r : Int)
    · subst e
      exact ⟨r, by omega, by omega, by rw [stn, lwn, ixn], by rw [stn]; exact Reach.refl _⟩
    · rw [sto i (by omega), lwo _ (hnv i a (by omega))]
      obtain ⟨i', c1, c2, c3, c4⟩ := h.lB i a (by omega)
      exact ⟨i', c1, c2, by rw [sto i' (by omega), ixo _ (hnv i' c1 (by omega))]; exact c3, by rw [sto i' (by omega)]; exact c4⟩
  · intro i a b hj
    have e : i ≠ (r : Int) := fun e => by
      subst e
      exact hj d (by omega) (by omega) fpn
    rw [sto i (by omega), lwo _ (hnv i a (by omega)), ixo _ (hnv i a (by omega))]
    exact h.lS i a (by omega) fun j j0 j1 => by have := hj j j0 (by omega); rw [fpo j j1] at this; exact this
  · intro j i a b c e1 e2
    by_cases ej : j = (d : Int)
    · subst ej
      rw [fpn] at c ⊢
      obtain rfl : i = (r : Int) := by omega
      omega
    · rw [fpo j (by omega)] at c ⊢
      have hb := h.fpb j a (by omega)
      have hir : i < (r : Int) := by
        have := e2 (by omega)
        by_cases ej2 : j + 1 = (d : Int)
        · rw [ej2, fpn] at this; exact this
        · rw [fpo _ (by omega)] at this
          have := (h.fpb (j + 1) (by omega) (by omega)).2.1
          omega
      rw [sto _ hb.2.1, sto i hir, lwo _ (hnv _ hb.1 hb.2.1), lwo _ (hnv i (by omega) hir)]
      exact h.lC j i a (by omega) c hir fun hlt => by have := e2 (by omega); rw [fpo _ hlt] at this; exact this
  · intro i i' e a b a' b' e0 e1 e2 e3
    by_cases ei : i = (r : Int)
    · subst ei
      rw [stn] at e0 e1
      omega
    · rw [sto i (by omega)] at e0 e1 ⊢
      rw [lwo _ (hnv i a (by omega))]
      have hu := h.A1 i a (by omega)
      have hub := hA _ hu.1
      by_cases ei' : i' = (r : Int)
      · subst ei'
        rw [stn, ixn]
        have := h.lowle a (by omega : i < (r : Int))
        have := (h.idb (st i)).2
        omega
      · rw [sto i' (by omega)] at e3 ⊢
        rw [ixo _ (hnv i' a' (by omega))]
        rcases pro _ e hub.1 hub.2 e0 e1 with h1 | ⟨_, h2⟩
        · exact h.lD i i' e a (by omega) a' (by omega) e0 h1 e2 e3
        · exact absurd (e3.symm.trans h2) (hnv i' a' (by omega))
  · intro x e xa e0 e1 e2 e3
    by_cases eo : o e = v
    · rw [eo, ixn]; omega
    · rw [ixo _ eo]
      have hub := hA _ xa
      rcases pro x e hub.1 hub.2 e0 e1 with h1 | ⟨_, h2⟩
      · exact h.eV x e xa e0 h1 e2 e3
      · exact absurd h2 eo
  · intro j i a b c e
    by_cases ej : j = (d : Int)
    · subst ej
      rw [fpn] at c ⊢
      obtain rfl : i = (r : Int) := by omega
      exact Reach.refl _
    · rw [fpo j (by omega)] at c ⊢
      have hb := h.fpb j a (by omega)
      rw [sto _ hb.2.1]
      by_cases ei : i = (r : Int)
      · subst ei; rw [stn]; exact hrv j a (by omega)
      · rw [sto i (by omega)]; exact h.aR j i a (by omega) c (by omega)
  · have h1 : (fun x => if upd idx v (seen + 1) x = 0 then (0 : Int) else 1) = upd (fun x => if idx x = 0 then 0 else 1) v 1 := by
      funext x
      by_cases e : x = v
      · subst e; rw [ixn, if_neg (by omega), upd_same]
      · rw [ixo x e, upd_other _ _ _ e]
    rw [h1, sumF_upd hvn.1 hvn.2, ← h.cnt, hi]
    simp
  · have := h.mr; omega
end
end Go.Proofs.Qxb6001307a
