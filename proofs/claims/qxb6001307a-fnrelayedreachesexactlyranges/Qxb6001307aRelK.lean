/-
  OWN WORK. What is reached through relays: plain.
-/
import Derived.Test.Qxb6001307aRelJ
namespace Go.Proofs.Qxb6001307a
set_option linter.unusedSimpArgs false
set_option linter.unusedVariables false

theorem cntU_upd {es : Int → Int} {s v : Int} (k : Nat) (v0 : 0 ≤ v) (v1 : v < (k : Int)) (hne : es v ≠ s) : cntU (upd es v s) s k = cntU es s k + 1 := by
  induction k with
  | zero => omega
  | succ k ih =>
    rw [show ((k + 1 : Nat) : Int) = (k : Int) + 1 from by omega]
    by_cases e : v = (k : Int)
    · subst e
      rw [cntU_yes (by omega) (upd_same _ _ _), cntU_no (by omega) hne, cntU_congr s (fun i i0 i1 => upd_other _ _ _ (by omega))]
    · have h1 := ih (by omega)
      by_cases c : es k = s
      · rw [cntU_yes (by omega) (by rw [upd_other _ _ _ (fun h => e h.symm)]; exact c), cntU_yes (by omega) c, h1]
      · rw [cntU_no (by omega) (by rw [upd_other _ _ _ (fun h => e h.symm)]; exact c), cntU_no (by omega) c, h1]
theorem cntU_iff {es rs : Int → Int} {s : Int} (k : Nat) (h : ∀ v, 0 ≤ v → v < (k : Int) → (es v = s ↔ rs v = s)) : cntU es s k = cntU rs s k := by
  induction k with
  | zero => rfl
  | succ k ih =>
    have h1 := ih fun v a b => h v a (by omega)
    rw [show ((k + 1 : Nat) : Int) = (k : Int) + 1 from by omega]
    have h2 := h k (by omega) (by omega)
    by_cases c : es k = s
    · rw [cntU_yes (by omega) c, cntU_yes (by omega) (h2.1 c), h1]
    · rw [cntU_no (by omega) c, cntU_no (by omega) (fun h => c (h2.2 h)), h1]

/-- The nodes marked in round 'u'. -/
structure Mk (n : Nat) (u : Int) (es : Int → Int) (P : Int → Prop) (c : Int) : Prop where
  b : ∀ v, 0 ≤ v → v < (n : Int) → es v = u + 1 ∨ es v ≤ u
  i : ∀ v, 0 ≤ v → v < (n : Int) → (es v = u + 1 ↔ P v)
  c : c = cntU es (u + 1) n
section
variable {n : Nat} {u c v : Int} {es : Int → Int} {P Q : Int → Prop}
theorem Mk.start (h : ∀ v, 0 ≤ v → v < (n : Int) → es v ≤ u) (hP : ∀ v, ¬ P v) : Mk n u es P 0 where
  b := fun v a b => .inr (h v a b)
  i := fun v a b => ⟨fun e => by have := h v a b; omega, fun e => absurd e (hP v)⟩
  c := (cntU_none (by omega) fun v a b e => by have := h v a b; omega).symm
theorem Mk.add (h : Mk n u es P c) (v0 : 0 ≤ v) (v1 : v < (n : Int)) (hv : es v ≠ u + 1) (hQ : ∀ x, Q x ↔ P x ∨ x = v) : Mk n u (upd es v (u + 1)) Q (c + 1) := by
  refine ⟨fun x a b => ?_, fun x a b => ?_, by rw [cntU_upd n v0 v1 hv, h.c]⟩
  · by_cases e : x = v
    · subst e; left; exact upd_same _ _ _
    · rw [upd_other _ _ _ e]; exact h.b x a b
  · rw [hQ]
    by_cases e : x = v
    · subst e; exact ⟨fun _ => .inr rfl, fun _ => upd_same _ _ _⟩
    · rw [upd_other _ _ _ e]
      exact ⟨fun k => .inl ((h.i x a b).1 k), fun k => (h.i x a b).2 (k.resolve_right e)⟩
theorem Mk.got (h : Mk n u es P c) (v0 : 0 ≤ v) (v1 : v < (n : Int)) (hv : es v = u + 1) (hQ : ∀ x, Q x ↔ P x ∨ x = v) : Mk n u es Q c :=
  ⟨h.b, fun x a b => by
    rw [hQ]
    exact ⟨fun k => .inl ((h.i x a b).1 k), fun k => k.elim (h.i x a b).2 fun e => by subst e; exact hv⟩, h.c⟩
theorem Mk.as (h : Mk n u es P c) (hQ : ∀ x, Q x ↔ P x) : Mk n u es Q c := ⟨h.b, fun x a b => by rw [hQ]; exact h.i x a b, h.c⟩
theorem Mk.le (h : Mk n u es P c) : ∀ v, 0 ≤ v → v < (n : Int) → es v ≤ u + 1 := fun v a b => by have := h.b v a b; omega
end

/-- The relays from which node 'u' reaches on. -/
def Gd (ns : Nat) (tx : Int) (re sr sl ss : Int → Int) (lfl : Int → Int) (u x : Int) : Prop :=
  (∃ i, 0 ≤ i ∧ i < (ns : Int) ∧ sr i = u ∧ re (sl i) + ss i ≤ x ∧ x < re (sl i + 1)) ∨ (tx ≤ u ∧ 0 ≤ lfl (u - tx) ∧ re (lfl (u - tx)) ≤ x ∧ x < re (lfl (u - tx) + 1))
/-- The nodes that the ranges of 'u' hold: of the first 'k' spans .. -/
def PSp (L1 : Int → Nat) (Z1 : Int → Int → Int) (sr sl ss : Int → Int) (u k v : Int) : Prop := ∃ j i, 0 ≤ j ∧ j < k ∧ sr j = u ∧ ss j ≤ i ∧ i < ((L1 (sl j) : Nat) : Int) ∧ Z1 (sl j) i = v
/-- .. and of a list, from 'a' on, before 'b'. -/
def PLs (Z1 : Int → Int → Int) (l a b v : Int) : Prop := ∃ i, a ≤ i ∧ i < b ∧ Z1 l i = v
theorem PLs_succ {Z1 : Int → Int → Int} {l a b : Int} (h : a ≤ b) (x : Int) : PLs Z1 l a (b + 1) x ↔ PLs Z1 l a b x ∨ x = Z1 l b := by
  constructor
  · rintro ⟨i, h0, h1, h2⟩
    by_cases e : i = b
    · subst e; exact .inr h2.symm
    · exact .inl ⟨i, h0, by omega, h2⟩
  · rintro (⟨i, h0, h1, h2⟩ | rfl)
    · exact ⟨i, h0, by omega, h2⟩
    · exact ⟨b, h, by omega, rfl⟩
theorem PSp_succ {L1 : Int → Nat} {Z1 : Int → Int → Int} {sr sl ss : Int → Int} {u k : Int} (k0 : 0 ≤ k) (he : sr k = u) (x : Int) : PSp L1 Z1 sr sl ss u (k + 1) x ↔ PSp L1 Z1 sr sl ss u k x ∨ PLs Z1 (sl k) (ss k) ((L1 (sl k) : Nat) : Int) x := by
  constructor
  · rintro ⟨j, i, h0, h1, h2, h3, h4, h5⟩
    by_cases e : j = k
    · subst e; exact .inr ⟨i, h3, h4, h5⟩
    · exact .inl ⟨j, i, h0, by omega, h2, h3, h4, h5⟩
  · rintro (⟨j, i, h0, h1, h2, h3, h4, h5⟩ | ⟨i, h3, h4, h5⟩)
    · exact ⟨j, i, h0, by omega, h2, h3, h4, h5⟩
    · exact ⟨k, i, k0, by omega, he, h3, h4, h5⟩
theorem PSp_skip {L1 : Int → Nat} {Z1 : Int → Int → Int} {sr sl ss : Int → Int} {u k : Int} (he : sr k ≠ u) (x : Int) : PSp L1 Z1 sr sl ss u (k + 1) x ↔ PSp L1 Z1 sr sl ss u k x := by
  constructor
  · rintro ⟨j, i, h0, h1, h2, h3⟩
    by_cases e : j = k
    · subst e; exact absurd h2 he
    · exact ⟨j, i, h0, by omega, h2, h3⟩
  · rintro ⟨j, i, h0, h1, h2, h3⟩
    exact ⟨j, i, h0, by omega, h2, h3⟩
/-- All. -/
def PEx (ns : Nat) (tx : Int) (L1 : Int → Nat) (Z1 : Int → Int → Int) (sr sl ss : Int → Int) (lfl : Int → Int) (u v : Int) : Prop :=
  PSp L1 Z1 sr sl ss u ns v ∨ (tx ≤ u ∧ 0 ≤ lfl (u - tx) ∧ PLs Z1 (lfl (u - tx)) 0 ((L1 (lfl (u - tx)) : Nat) : Int) v)

section
variable {nl ns nt nf no n T m M M2 : Nat} {f o cl lf lt sr sl ss fr to rf ro rc ht : Int → Int} {L1 L2 : Int → Nat} {Z1 Z2 : Int → Int → Int} {hb ow : Int → Bool} {tx : Int}
theorem RA.lfLr (h : RA nl ns nt nf no n T m M M2 f o cl lf lt sr sl ss fr to rf ro rc L1 L2 Z1 Z2 hb ow tx) (hti : HtI hb L2 nt 0 ht) {u : Int} (u0 : tx ≤ u) (u1 : u < (n : Int)) (hl : 0 ≤ lfL hb L2 Z2 ht (u - tx)) :
    lfL hb L2 Z2 ht (u - tx) < (nl : Int) ∧ 0 < L1 (lfL hb L2 Z2 ht (u - tx)) ∧ rel lf lt L1 (lfL hb L2 Z2 ht (u - tx) + 1) = rel lf lt L1 (lfL hb L2 Z2 ht (u - tx)) + (L1 (lfL hb L2 Z2 ht (u - tx)) : Nat) ∧
    ∃ a, (ns : Int) ≤ a ∧ a < (M2 : Int) ∧ fr a = u ∧ to a = (n : Int) + rel lf lt L1 (lfL hb L2 Z2 ht (u - tx)) := by
  have hetx := h.etx
  obtain ⟨t0, t1, p1, p2, p3⟩ := hub_at hti (h := u - tx) (by omega) (by omega)
  generalize hte : ht (u - tx) = t at t0 t1 p1 p2 p3
  have k : ¬ u - tx - thF hb L2 t + 1 < ((L2 t : Nat) : Int) := fun k => by unfold lfL at hl; rw [hte, if_pos k] at hl; omega
  have hB : Bef L2 nt 0 t (u - tx - thF hb L2 t + 1 - ((L2 t : Nat) : Int)) := ⟨t0, by omega, .inl ⟨t1, by omega⟩⟩
  have hlf := h.leaf hB p1
  have he : lfL hb L2 Z2 ht (u - tx) = Z2 t (u - tx - thF hb L2 t + 1 - ((L2 t : Nat) : Int)) := by unfold lfL; rw [hte, if_neg k]
  rw [he]
  obtain ⟨i, i0, i1, hf, ht9⟩ := h.lk.base.ex _ _ hB p1
  exact ⟨hlf.2.1, hlf.2.2.1, hlf.2.2.2, i, i0, i1, by omega, ht9⟩
theorem RA.gdl (h : RA nl ns nt nf no n T m M M2 f o cl lf lt sr sl ss fr to rf ro rc L1 L2 Z1 Z2 hb ow tx) (hti : HtI hb L2 nt 0 ht) {u x : Int} (u1 : u < (n : Int)) (hg : Gd ns tx (rel lf lt L1) sr sl ss (lfL hb L2 Z2 ht) u x) : ∃ l, 0 ≤ l ∧ l < (nl : Int) ∧ rel lf lt L1 l ≤ x ∧ x < rel lf lt L1 (l + 1) ∧ rel lf lt L1 (l + 1) = rel lf lt L1 l + (L1 l : Nat) ∧ (x + 1 < rel lf lt L1 (l + 1) → Gd ns tx (rel lf lt L1) sr sl ss (lfL hb L2 Z2 ht) u (x + 1)) ∧ PEx ns tx L1 Z1 sr sl ss (lfL hb L2 Z2 ht) u (Z1 l (x - rel lf lt L1 l)) := by
  rcases hg with ⟨i, i0, i1, he, x0, x1⟩ | ⟨ut, hl, x0, x1⟩
  · have hs := h.sp.1 i i0 i1
    have hu := h.span i0 i1
    exact ⟨sl i, by omega, by omega, by omega, x1, hu, fun hx => .inl ⟨i, i0, i1, he, by omega, hx⟩, .inl ⟨i, _, i0, i1, he, by omega, by omega, rfl⟩⟩
  · obtain ⟨a, b, c, _⟩ := h.lfLr hti ut u1 hl
    exact ⟨_, hl, a, x0, x1, c, fun hx => .inr ⟨ut, hl, by omega, hx⟩, .inr ⟨ut, hl, _, by omega, by omega, rfl⟩⟩
theorem RA.gdr (h : RA nl ns nt nf no n T m M M2 f o cl lf lt sr sl ss fr to rf ro rc L1 L2 Z1 Z2 hb ow tx) (hti : HtI hb L2 nt 0 ht) {u x : Int} (u1 : u < (n : Int)) (hg : Gd ns tx (rel lf lt L1) sr sl ss (lfL hb L2 Z2 ht) u x) : 0 ≤ x ∧ (n : Int) + x < T := by
  obtain ⟨l, l0, l1, x0, x1, _⟩ := h.gdl hti u1 hg
  have hb0 := (rel_b lf lt L1 l0).1
  have hm := rel_mono lf lt L1 (j := l + 1) (k := nl) (by omega) (by omega)
  have hT := h.hT
  omega
theorem RA.gdn (h : RA nl ns nt nf no n T m M M2 f o cl lf lt sr sl ss fr to rf ro rc L1 L2 Z1 Z2 hb ow tx) (hti : HtI hb L2 nt 0 ht) {u x : Int} (u1 : u < (n : Int)) (hg : Gd ns tx (rel lf lt L1) sr sl ss (lfL hb L2 Z2 ht) u x) (hx : rf ((n : Int) + x + 1) = rf ((n : Int) + x) + 2) : Gd ns tx (rel lf lt L1) sr sl ss (lfL hb L2 Z2 ht) u (x + 1) := by
  obtain ⟨l, l0, l1, x0, x1, _, hnx, _⟩ := h.gdl hti u1 hg
  rcases (h.relay l0 l1 x0 x1).2.2 with ⟨q1, _⟩ | ⟨q1, q2⟩
  · exact hnx q1
  · omega
theorem RA.PEx_iff (h : RA nl ns nt nf no n T m M M2 f o cl lf lt sr sl ss fr to rf ro rc L1 L2 Z1 Z2 hb ow tx) (hti : HtI hb L2 nt 0 ht) {u : Int} (u1 : u < (n : Int)) (v : Int) : PEx ns tx L1 Z1 sr sl ss (lfL hb L2 Z2 ht) u v ↔ ∃ x, Gd ns tx (rel lf lt L1) sr sl ss (lfL hb L2 Z2 ht) u x ∧ ro (rf ((n : Int) + x)) = v := by
  constructor
  · rintro (⟨j, i, j0, j1, he, i0, i1, rfl⟩ | ⟨ut, hl, i, i0, i1, rfl⟩)
    · have hs := h.sp.1 j j0 j1
      have hu := h.span j0 j1
      refine ⟨rel lf lt L1 (sl j) + i, .inl ⟨j, j0, j1, he, by omega, by omega⟩, ?_⟩
      rw [(h.relay (l := sl j) (x := rel lf lt L1 (sl j) + i) (by omega) (by omega) (by omega) (by omega)).1]
      congr 1; omega
    · obtain ⟨a, b, c, _⟩ := h.lfLr hti ut u1 hl
      refine ⟨rel lf lt L1 (lfL hb L2 Z2 ht (u - tx)) + i, .inr ⟨ut, hl, by omega, by omega⟩, ?_⟩
      rw [(h.relay (l := lfL hb L2 Z2 ht (u - tx)) (x := rel lf lt L1 (lfL hb L2 Z2 ht (u - tx)) + i) hl a (by omega) (by omega)).1]
      congr 1; omega
  · rintro ⟨x, hg, rfl⟩
    obtain ⟨l, l0, l1, x0, x1, _, _, hpe⟩ := h.gdl hti u1 hg
    rw [(h.relay l0 l1 x0 x1).1]
    exact hpe
/-- A new edge of 'u' leads to a relay from which its ranges hold on. -/
theorem RA.src (h : RA nl ns nt nf no n T m M M2 f o cl lf lt sr sl ss fr to rf ro rc L1 L2 Z1 Z2 hb ow tx) (hti : HtI hb L2 nt 0 ht) {u e : Int} (u0 : 0 ≤ u) (u1 : u < (n : Int)) (e0 : rf u ≤ e) (e1 : e < rf (u + 1)) (hr : (n : Int) ≤ ro e) : Gd ns tx (rel lf lt L1) sr sl ss (lfL hb L2 Z2 ht) u (ro e - n) := by
  have hnT := h.nT
  obtain ⟨hs, hd, hc⟩ := h.rfs u0 (show u < (T : Int) by omega)
  have hd2 := h.degO u1
  have hn := h.hn
  by_cases k : e < rf u + dgU n f u
  · have b1 := adj_bounds h.adj u0 (by omega)
    have b2 := adj_bounds h.adj (show (0 : Int) ≤ u + 1 by omega) (by omega)
    have ho := (h.csr.old u (e - rf u) u0 u1 (by omega) (by omega)).1
    rw [show rf u + (e - rf u) = e from by omega] at ho
    have := h.adj.2.2.2.2.2 (f u + (e - rf u)) (by omega) (by omega)
    omega
  · obtain ⟨i, i0, i1, hf, _, hr9, _⟩ := h.newE (u := u) (j := e - (rf u + dgU n f u)) u1 (by omega) (by omega)
    rw [show rf u + dgU n f u + (e - (rf u + dgU n f u)) = e from by omega] at hr9
    rw [hr9]
    by_cases c : i < (ns : Int)
    · have h1 := h.lk.base.sp i i0 c
      have hs := h.sp.1 i i0 c
      have hu := h.span i0 c
      rw [h1.2]
      exact .inl ⟨i, i0, c, by omega, by omega, by omega⟩
    · obtain ⟨a1, a2, a3⟩ := h.hubL hti (show (ns : Int) ≤ i by omega) i1
      rw [hf] at a1 a2 a3
      have hl : 0 ≤ lfL hb L2 Z2 ht (u - tx) := by
        have hetx := h.etx
        obtain ⟨t0, t1, p1, p2, p3⟩ := hub_at hti (h := u - tx) (by omega) (by omega)
        unfold lfL
        rw [if_neg (by omega)]
        exact (h.lv.rng _ _ ⟨t0, by omega, .inl ⟨t1, by omega⟩⟩).1
      obtain ⟨b1, b2, b3, _⟩ := h.lfLr hti a1 u1 hl
      rw [a3]
      exact .inr ⟨a1, hl, by omega, by omega⟩
/-- Every such relay is reached along its list from an edge of 'u'. -/
theorem RA.chain (h : RA nl ns nt nf no n T m M M2 f o cl lf lt sr sl ss fr to rf ro rc L1 L2 Z1 Z2 hb ow tx) (hti : HtI hb L2 nt 0 ht) {u x : Int} (u0 : 0 ≤ u) (u1 : u < (n : Int)) (hg : Gd ns tx (rel lf lt L1) sr sl ss (lfL hb L2 Z2 ht) u x) : ∃ x0 e, 0 ≤ x0 ∧ x0 ≤ x ∧ rf u ≤ e ∧ e < rf (u + 1) ∧ ro e = (n : Int) + x0 ∧ ∀ y, x0 ≤ y → y < x → rf ((n : Int) + y + 1) = rf ((n : Int) + y) + 2 := by
  have hnT := h.nT
  obtain ⟨hs, hd, hc⟩ := h.rfs u0 (show u < (T : Int) by omega)
  have key : ∀ a l, 0 ≤ a → a < (M2 : Int) → fr a = u → 0 ≤ l → l < (nl : Int) → rel lf lt L1 l ≤ to a - n → to a - n ≤ x → x < rel lf lt L1 (l + 1) → ∃ x0 e, 0 ≤ x0 ∧ x0 ≤ x ∧ rf u ≤ e ∧ e < rf (u + 1) ∧ ro e = (n : Int) + x0 ∧ ∀ y, x0 ≤ y → y < x → rf ((n : Int) + y + 1) = rf ((n : Int) + y) + 2 := by
    intro a l a0 a1 hf l0 l1 c0 c1 c2
    have hM := h.lk.M2M
    have hnw := (h.csr.new a a0 (by omega)).1
    rw [hf] at hnw
    have hcl := cntU_lt (fr := fr) (i := a) (i' := (M : Int)) a0 (by omega) hf
    have hcb := (cntU_b fr u a0).1
    have hb0 := (rel_b lf lt L1 l0).1
    refine ⟨to a - n, rf u + dgU n f u + cntU fr u a, by omega, c1, by omega, by omega, by rw [hnw]; omega, fun y y0 y1 => ?_⟩
    rcases (h.relay (x := y) l0 l1 (by omega) (by omega)).2.2 with ⟨q1, q2, _⟩ | ⟨q1, q2⟩
    · exact q2
    · omega
  rcases hg with ⟨i, i0, i1, he, x0, x1⟩ | ⟨ut, hl, x0, x1⟩
  · have hs := h.sp.1 i i0 i1
    have h1 := h.lk.base.sp i i0 i1
    have hM2 := h.lk.base.nsM
    exact key i (sl i) i0 (by omega) (by omega) (by omega) (by omega) (by omega) (by omega) x1
  · obtain ⟨b1, b2, b3, a, a0, a1, af, at9⟩ := h.lfLr hti ut u1 hl
    exact key a _ (by omega) a1 af hl b1 (by omega) (by omega) x1
end

/-- The search through relays, in round 'u'; 'cx' is the relay in hand. -/
structure WI (n T : Nat) (rf ro : Int → Int) (u : Int) (G : Int → Prop) (es rs ps wk : Int → Int) (q : Nat) (cr cx : Int) : Prop where
  pb : ∀ x, 0 ≤ x → (n : Int) + x < T → ps x = u + 1 ∨ ps x ≤ u
  pg : ∀ x, 0 ≤ x → (n : Int) + x < T → ps x = u + 1 → G x
  wb : ∀ j, 0 ≤ j → j < (q : Int) → (n : Int) ≤ wk j ∧ wk j < T ∧ ps (wk j - n) = u + 1
  dn : ∀ x, 0 ≤ x → (n : Int) + x < T → ps x = u + 1 → x ≠ cx → (∃ j, 0 ≤ j ∧ j < (q : Int) ∧ wk j = (n : Int) + x) ∨ (rs (ro (rf ((n : Int) + x))) = u + 1 ∧ (rf ((n : Int) + x + 1) = rf ((n : Int) + x) + 2 → ps (x + 1) = u + 1))
  rb : ∀ v, 0 ≤ v → v < (n : Int) → rs v = u + 1 ∨ rs v ≤ u
  rse : ∀ v, 0 ≤ v → v < (n : Int) → rs v = u + 1 → es v = u + 1
  rc : cr = cntU rs (u + 1) n
section
variable {n T : Nat} {rf ro es rs ps wk : Int → Int} {u cr cx : Int} {G : Int → Prop} {q : Nat}
theorem WI.start (hp : ∀ x, 0 ≤ x → (n : Int) + x < T → ps x ≤ u) (hr : ∀ v, 0 ≤ v → v < (n : Int) → rs v ≤ u) : WI n T rf ro u G es rs ps wk 0 0 cx where
  pb := fun x a b => .inr (hp x a b)
  pg := fun x a b e => by have := hp x a b; omega
  wb := fun j a b => by omega
  dn := fun x a b e => by have := hp x a b; omega
  rb := fun v a b => .inr (hr v a b)
  rse := fun v a b e => by have := hr v a b; omega
  rc := (cntU_none (by omega) fun v a b e => by have := hr v a b; omega).symm
theorem WI.push (h : WI n T rf ro u G es rs ps wk q cr cx) {y Y : Int} (hY : Y = (n : Int) + y) (y0 : 0 ≤ y) (y1 : (n : Int) + y < T) (hg : G y) : WI n T rf ro u G es rs (upd ps y (u + 1)) (upd wk (q : Int) Y) (q + 1) cr cx := by
  subst hY
  have up : ∀ x, ps x = u + 1 → upd ps y (u + 1) x = u + 1 := fun x e => by
    by_cases k : x = y
    · subst k; exact upd_same _ _ _
    · rw [upd_other _ _ _ k]; exact e
  refine ⟨fun x a b => ?_, fun x a b e => ?_, fun j a b => ?_, fun x a b e k => ?_, h.rb, h.rse, h.rc⟩
  · by_cases k : x = y
    · subst k; left; exact upd_same _ _ _
    · rw [upd_other _ _ _ k]; exact h.pb x a b
  · by_cases k : x = y
    · subst k; exact hg
    · rw [upd_other _ _ _ k] at e; exact h.pg x a b e
  · by_cases k : j = (q : Int)
    · subst k; rw [upd_same]; exact ⟨by omega, y1, by rw [show (n : Int) + y - n = y from by omega]; exact upd_same _ _ _⟩
    · rw [upd_other _ _ _ k]
      have := h.wb j a (by omega)
      exact ⟨this.1, this.2.1, up _ this.2.2⟩
  · by_cases k2 : x = y
    · subst k2; exact .inl ⟨q, by omega, by omega, upd_same _ _ _⟩
    · rw [upd_other _ _ _ k2] at e
      rcases h.dn x a b e k with ⟨j, j0, j1, j2⟩ | ⟨d1, d2⟩
      · exact .inl ⟨j, j0, by omega, by rw [upd_other _ _ _ (by omega)]; exact j2⟩
      · exact .inr ⟨d1, fun hx => up _ (d2 hx)⟩
theorem WI.mark (h : WI n T rf ro u G es rs ps wk q cr cx) {v : Int} (v0 : 0 ≤ v) (v1 : v < (n : Int)) (hv : rs v ≠ u + 1) (he : es v = u + 1) : WI n T rf ro u G es (upd rs v (u + 1)) ps wk q (cr + 1) cx := by
  have up : ∀ x, rs x = u + 1 → upd rs v (u + 1) x = u + 1 := fun x e => by
    by_cases k : x = v
    · subst k; exact upd_same _ _ _
    · rw [upd_other _ _ _ k]; exact e
  refine ⟨h.pb, h.pg, h.wb, fun x a b e k => ?_, fun x a b => ?_, fun x a b e => ?_, by rw [cntU_upd n v0 v1 hv, h.rc]⟩
  · rcases h.dn x a b e k with d | ⟨d1, d2⟩
    · exact .inl d
    · exact .inr ⟨up _ d1, d2⟩
  · by_cases k : x = v
    · subst k; left; exact upd_same _ _ _
    · rw [upd_other _ _ _ k]; exact h.rb x a b
  · by_cases k : x = v
    · subst k; exact he
    · rw [upd_other _ _ _ k] at e; exact h.rse x a b e
theorem WI.pop (h : WI n T rf ro u G es rs ps wk q cr (-1)) {q' : Nat} (hq : (q : Int) = (q' : Int) + 1) : WI n T rf ro u G es rs ps wk q' cr (wk ((q : Int) - 1) - n) := by
  refine ⟨h.pb, h.pg, fun j a b => h.wb j a (by omega), fun x a b e k => ?_, h.rb, h.rse, h.rc⟩
  rcases h.dn x a b e (by omega) with ⟨j, j0, j1, j2⟩ | d
  · by_cases c : j = (q : Int) - 1
    · subst c; omega
    · exact .inl ⟨j, j0, by omega, j2⟩
  · exact .inr d
theorem WI.done (h : WI n T rf ro u G es rs ps wk q cr cx) (h1 : rs (ro (rf ((n : Int) + cx))) = u + 1) (h2 : rf ((n : Int) + cx + 1) = rf ((n : Int) + cx) + 2 → ps (cx + 1) = u + 1) : WI n T rf ro u G es rs ps wk q cr (-1) := by
  refine ⟨h.pb, h.pg, h.wb, fun x a b e k => ?_, h.rb, h.rse, h.rc⟩
  by_cases c : x = cx
  · subst c; exact .inr ⟨h1, h2⟩
  · exact h.dn x a b e c
end
section
variable {nl ns nt nf no n T m M M2 : Nat} {f o cl lf lt sr sl ss fr to rf ro rc ht : Int → Int} {L1 L2 : Int → Nat} {Z1 Z2 : Int → Int → Int} {hb ow : Int → Bool} {tx : Int}
/-- At the end what is reached is what the ranges hold. -/
theorem RA.fin (h : RA nl ns nt nf no n T m M M2 f o cl lf lt sr sl ss fr to rf ro rc L1 L2 Z1 Z2 hb ow tx) (hti : HtI hb L2 nt 0 ht) {u cr ce : Int} {es rs ps wk : Int → Int} (u0 : 0 ≤ u) (u1 : u < (n : Int))
    (hE : Mk n u es (PEx ns tx L1 Z1 sr sl ss (lfL hb L2 Z2 ht) u) ce) (hW : WI n T rf ro u (Gd ns tx (rel lf lt L1) sr sl ss (lfL hb L2 Z2 ht) u) es rs ps wk 0 cr (-1))
    (hsrc : ∀ e, rf u ≤ e → e < rf (u + 1) → (n : Int) ≤ ro e → ps (ro e - n) = u + 1) : cr = ce := by
  have mark : ∀ x, Gd ns tx (rel lf lt L1) sr sl ss (lfL hb L2 Z2 ht) u x → ps x = u + 1 := by
    intro x hg
    obtain ⟨x0, e, x00, xx, e0, e1, he, hch⟩ := h.chain hti u0 u1 hg
    have hxT := (h.gdr hti u1 hg).2
    have go : ∀ d : Nat, x0 + d ≤ x → ps (x0 + d) = u + 1 := by
      intro d
      induction d with
      | zero =>
        intro _
        have := hsrc e e0 e1 (by omega)
        rw [he, show (n : Int) + x0 - n = x0 from by omega] at this
        simpa using this
      | succ d ih =>
        intro hd
        have i1 := ih (by omega)
        have hst := hch (x0 + d) (by omega) (by omega)
        rcases hW.dn (x0 + d) (by omega) (by omega) i1 (by omega) with ⟨j, j0, j1, _⟩ | ⟨_, d2⟩
        · omega
        · rw [show x0 + ((d + 1 : Nat) : Int) = x0 + d + 1 from by omega]
          exact d2 hst
    have := go (x - x0).toNat (by omega)
    rwa [show x0 + (((x - x0).toNat : Nat) : Int) = x from by omega] at this
  rw [hW.rc, hE.c]
  refine cntU_iff n fun v v0 v1 => ⟨fun hr => hW.rse v v0 v1 hr, fun he => ?_⟩
  obtain ⟨x, hg, rfl⟩ := (h.PEx_iff hti u1 v).1 ((hE.i v v0 v1).1 he)
  have hxr := h.gdr hti u1 hg
  rcases hW.dn x hxr.1 hxr.2 (mark x hg) (by omega) with ⟨j, j0, j1, _⟩ | ⟨d1, _⟩
  · omega
  · exact d1
end
end Go.Proofs.Qxb6001307a
