/-
  OWN WORK. What relayed gives, node by node: plain.
-/
import Derived.Test.Qxb6001307aRelH
namespace Go.Proofs.Qxb6001307a
set_option linter.unusedSimpArgs false
set_option linter.unusedVariables false

/-- All that is known of the input and of the result. -/
structure RA (nl ns nt nf no n T m M M2 : Nat) (f o cl lf lt sr sl ss fr to rf ro rc : Int → Int) (L1 L2 : Int → Nat) (Z1 Z2 : Int → Int → Int) (hb ow : Int → Bool) (tx : Int) : Prop where
  adj : AdjOK nf no no f o
  hn : (n : Int) = (nf : Int) - 1
  lv : LvI nl L1 L2 Z2 (thF hb L2) nt 0 ow lt
  sp : SpI nl tx L1 sr sl ss ns
  lfi : ∀ l, 0 ≤ l → l ≤ (nl : Int) → LfOK ns sl l (lf l)
  etx : tx = (n : Int) - hu hb L2 nt
  tx0 : 0 ≤ tx
  hT : (T : Int) = (n : Int) + rel lf lt L1 nl
  nodes : ∀ l i, 0 ≤ l → l < (nl : Int) → 0 ≤ i → i < ((L1 l : Nat) : Int) → 0 ≤ Z1 l i ∧ Z1 l i < tx
  csr : CSR n f o cl M fr to T rf ro rc
  len : rf T = m
  lk : Lk3 nl ns (n : Int) tx hb L2 Z1 Z2 (rel lf lt L1) sr sl ss nt M2 (rel lf lt L1 nl) M fr to
  frr : ∀ a, 0 ≤ a → a < (M : Int) → 0 ≤ fr a ∧ fr a < (T : Int)

theorem find_step (g : Int → Int) (N : Nat) (h0 : g 0 = 0) {x : Int} (x0 : 0 ≤ x) (x1 : x < g N) : ∃ l, 0 ≤ l ∧ l < (N : Int) ∧ g l ≤ x ∧ x < g (l + 1) := by
  induction N with
  | zero => rw [show ((0 : Nat) : Int) = 0 from rfl, h0] at x1; omega
  | succ N ih =>
    by_cases c : x < g N
    · obtain ⟨l, a, b, d, e⟩ := ih c
      exact ⟨l, a, by omega, d, e⟩
    · exact ⟨N, by omega, by omega, by omega, by rw [show (N : Int) + 1 = ((N + 1 : Nat) : Int) from by omega]; exact x1⟩

section
variable {nl ns nt nf no n T m M M2 : Nat} {f o cl lf lt sr sl ss fr to rf ro rc : Int → Int} {L1 L2 : Int → Nat} {Z1 Z2 : Int → Int → Int} {hb ow : Int → Bool} {tx : Int}
theorem RA.span (h : RA nl ns nt nf no n T m M M2 f o cl lf lt sr sl ss fr to rf ro rc L1 L2 Z1 Z2 hb ow tx) {i : Int} (i0 : 0 ≤ i) (i1 : i < (ns : Int)) : rel lf lt L1 (sl i + 1) = rel lf lt L1 (sl i) + (L1 (sl i) : Nat) := by
  have hs := h.sp.1 i i0 i1
  refine rel_yes (by omega) (.inl ?_)
  exact (lf_iff (h.lfi (sl i) (by omega) (by omega)) (h.lfi (sl i + 1) (by omega) (by omega))).2 ⟨i, i0, i1, rfl⟩
theorem RA.leaf (h : RA nl ns nt nf no n T m M M2 f o cl lf lt sr sl ss fr to rf ro rc L1 L2 Z1 Z2 hb ow tx) {s q : Int} (hB : Bef L2 nt 0 s q) (hs : 0 ≤ thF hb L2 s) : 0 ≤ Z2 s q ∧ Z2 s q < (nl : Int) ∧ 0 < L1 (Z2 s q) ∧ rel lf lt L1 (Z2 s q + 1) = rel lf lt L1 (Z2 s q) + (L1 (Z2 s q) : Nat) := by
  have hr := h.lv.rng s q hB
  have hc := h.lv.cov s q hB hs
  exact ⟨hr.1, hr.2.1, hc.1, rel_yes hr.1 (.inr (by rw [hc.2]; exact hB.1))⟩
theorem RA.list (h : RA nl ns nt nf no n T m M M2 f o cl lf lt sr sl ss fr to rf ro rc L1 L2 Z1 Z2 hb ow tx) {x : Int} (x0 : 0 ≤ x) (x1 : (n : Int) + x < T) : ∃ l, 0 ≤ l ∧ l < (nl : Int) ∧ rel lf lt L1 l ≤ x ∧ x < rel lf lt L1 (l + 1) := by
  have hT := h.hT
  exact find_step (rel lf lt L1) nl (rel_zero _ _ _) x0 (by omega)
/-- A new edge of an old node leads to a relay. -/
theorem RA.low (h : RA nl ns nt nf no n T m M M2 f o cl lf lt sr sl ss fr to rf ro rc L1 L2 Z1 Z2 hb ow tx) {i : Int} (i0 : 0 ≤ i) (i1 : i < (M2 : Int)) : (n : Int) ≤ to i ∧ to i < (T : Int) := by
  have hT := h.hT
  by_cases c : i < (ns : Int)
  · rw [(h.lk.base.sp i i0 c).2]
    have hs := h.sp.1 i i0 c
    have hu := h.span i0 c
    have hb0 := (rel_b lf lt L1 (k := sl i) (by omega)).1
    have hm := rel_mono lf lt L1 (j := sl i + 1) (k := nl) (by omega) (by omega)
    omega
  · obtain ⟨s, q, hB, hs, hq, _, ht⟩ := h.lk.base.hub i (by omega) i1
    rw [ht]
    obtain ⟨a, b, c2, d⟩ := h.leaf hB hs
    have hb0 := (rel_b lf lt L1 a).1
    have hm := rel_mono lf lt L1 (j := Z2 s q + 1) (k := nl) (by omega) (by omega)
    omega
theorem RA.hi (h : RA nl ns nt nf no n T m M M2 f o cl lf lt sr sl ss fr to rf ro rc L1 L2 Z1 Z2 hb ow tx) {i : Int} (i0 : 0 ≤ i) (i1 : i < (M : Int)) : fr i < (n : Int) ↔ i < (M2 : Int) := by
  constructor
  · intro hf
    by_cases c : i < (M2 : Int)
    · exact c
    · have := (h.lk.rl i (by omega) i1).1; omega
  · exact fun hi => h.lk.low i i0 hi
theorem RA.rfs (h : RA nl ns nt nf no n T m M M2 f o cl lf lt sr sl ss fr to rf ro rc L1 L2 Z1 Z2 hb ow tx) {u : Int} (u0 : 0 ≤ u) (u1 : u < (T : Int)) : rf (u + 1) = rf u + (dgU n f u + cntU fr u M) ∧ 0 ≤ dgU n f u ∧ 0 ≤ cntU fr u M :=
  ⟨h.csr.rs u u0 u1, (dgU_b h.adj h.hn u0).1, (cntU_b fr u (by omega)).1⟩
theorem RA.rfm (h : RA nl ns nt nf no n T m M M2 f o cl lf lt sr sl ss fr to rf ro rc L1 L2 Z1 Z2 hb ow tx) {u v : Int} (u0 : 0 ≤ u) (uv : u ≤ v) (v1 : v ≤ (T : Int)) : rf u ≤ rf v := by
  obtain ⟨d, rfl⟩ : ∃ d : Nat, v = u + d := ⟨(v - u).toNat, by omega⟩
  clear uv
  induction d with
  | zero => simp
  | succ d ih =>
    have h1 := h.rfs (u := u + d) (by omega) (by omega)
    have h2 := ih (by omega)
    rw [show u + ((d + 1 : Nat) : Int) = u + d + 1 from by omega]
    omega
theorem RA.rfb (h : RA nl ns nt nf no n T m M M2 f o cl lf lt sr sl ss fr to rf ro rc L1 L2 Z1 Z2 hb ow tx) {u : Int} (u0 : 0 ≤ u) (u1 : u ≤ (T : Int)) : 0 ≤ rf u ∧ rf u ≤ (m : Int) := by
  have h1 := h.rfm (Int.le_refl 0) u0 u1
  have h2 := h.rfm u0 u1 (Int.le_refl _)
  rw [h.csr.r0] at h1
  rw [h.len] at h2
  exact ⟨h1, h2⟩
theorem RA.nT (h : RA nl ns nt nf no n T m M M2 f o cl lf lt sr sl ss fr to rf ro rc L1 L2 Z1 Z2 hb ow tx) : (n : Int) ≤ T := by
  have := h.hT
  have := (rel_b lf lt L1 (k := (nl : Int)) (by omega)).1
  omega
/-- The new edges of an old node: links of the first two kinds, in order. -/
theorem RA.newE (h : RA nl ns nt nf no n T m M M2 f o cl lf lt sr sl ss fr to rf ro rc L1 L2 Z1 Z2 hb ow tx) {u j : Int} (u1 : u < (n : Int)) (j0 : 0 ≤ j) (j1 : j < cntU fr u M) : ∃ i, 0 ≤ i ∧ i < (M2 : Int) ∧ fr i = u ∧ cntU fr u i = j ∧ ro (rf u + dgU n f u + j) = to i ∧ rc (rf u + dgU n f u + j) = 8 := by
  obtain ⟨i, i0, i1, hf, hc⟩ := cntU_find fr u M j0 j1
  have hn := h.csr.new i i0 i1
  rw [hf, hc] at hn
  exact ⟨i, i0, (h.hi i0 i1).1 (by omega), hf, hc, hn.1, hn.2⟩
theorem RA.degO (h : RA nl ns nt nf no n T m M M2 f o cl lf lt sr sl ss fr to rf ro rc L1 L2 Z1 Z2 hb ow tx) {u : Int} (u1 : u < (n : Int)) : dgU n f u = f (u + 1) - f u := by unfold dgU; rw [if_pos u1]
/-- The edges of a relay. -/
theorem RA.relay (h : RA nl ns nt nf no n T m M M2 f o cl lf lt sr sl ss fr to rf ro rc L1 L2 Z1 Z2 hb ow tx) {l x : Int} (l0 : 0 ≤ l) (l1 : l < (nl : Int)) (x0 : rel lf lt L1 l ≤ x) (x1 : x < rel lf lt L1 (l + 1)) :
    ro (rf ((n : Int) + x)) = Z1 l (x - rel lf lt L1 l) ∧ rc (rf ((n : Int) + x)) = 8 ∧
    ((x + 1 < rel lf lt L1 (l + 1) ∧ rf ((n : Int) + x + 1) = rf ((n : Int) + x) + 2 ∧ ro (rf ((n : Int) + x) + 1) = (n : Int) + x + 1 ∧ rc (rf ((n : Int) + x) + 1) = 8) ∨ (x + 1 = rel lf lt L1 (l + 1) ∧ rf ((n : Int) + x + 1) = rf ((n : Int) + x) + 1)) := by
  have hm := rel_mono lf lt L1 (j := l + 1) (k := nl) (by omega) (by omega)
  have hb0 := (rel_b lf lt L1 l0).1
  have hT := h.hT
  have hd : dgU n f ((n : Int) + x) = 0 := by unfold dgU; rw [if_neg (by omega)]
  have hrs := h.csr.rs ((n : Int) + x) (by omega) (by omega)
  obtain ⟨a, a0, a1, af, at9, ac⟩ := h.lk.r1 l x l0 l1 x0 x1 (by omega)
  have hM2 := h.lk.M2M
  have hn := h.csr.new a (by omega) a1
  rw [af, ac, hd, Int.add_zero, Int.add_zero, at9] at hn
  refine ⟨hn.1, hn.2, ?_⟩
  by_cases c : x + 1 < rel lf lt L1 (l + 1)
  · obtain ⟨hc, a', b0, b1, bf, bt, bc⟩ := h.lk.r2 l x l0 l1 x0 c (by omega)
    have hn' := h.csr.new a' (by omega) b1
    rw [bf, bc, hd, Int.add_zero, bt] at hn'
    exact .inl ⟨c, by rw [hrs, hd, hc]; omega, hn'.1, hn'.2⟩
  · have hc := h.lk.r3 l x l0 l1 x0 (by omega) (by omega)
    exact .inr ⟨by omega, by rw [hrs, hd, hc]; omega⟩
/-- The node of a relay lies below the hubs. -/
theorem RA.node (h : RA nl ns nt nf no n T m M M2 f o cl lf lt sr sl ss fr to rf ro rc L1 L2 Z1 Z2 hb ow tx) {l x : Int} (l0 : 0 ≤ l) (l1 : l < (nl : Int)) (x0 : rel lf lt L1 l ≤ x) (x1 : x < rel lf lt L1 (l + 1)) : 0 ≤ Z1 l (x - rel lf lt L1 l) ∧ Z1 l (x - rel lf lt L1 l) < tx := by
  have hs := rel_step lf lt L1 l0
  exact h.nodes l _ l0 l1 (by omega) (by omega)
theorem RA.txn (h : RA nl ns nt nf no n T m M M2 f o cl lf lt sr sl ss fr to rf ro rc L1 L2 Z1 Z2 hb ow tx) : tx ≤ (n : Int) := by
  have := h.etx
  have := (hu_b hb L2 (t := (nt : Int)) (by omega)).1
  omega
theorem RA.range (h : RA nl ns nt nf no n T m M M2 f o cl lf lt sr sl ss fr to rf ro rc L1 L2 Z1 Z2 hb ow tx) {e : Int} (e0 : 0 ≤ e) (e1 : e < (m : Int)) : 0 ≤ ro e ∧ ro e < (T : Int) := by
  have hnT := h.nT
  have htn := h.txn
  obtain ⟨u, u0, u1, ue, eu⟩ := find_step rf T h.csr.r0 e0 (by rw [h.len]; exact e1)
  obtain ⟨hs, hd, hc⟩ := h.rfs u0 u1
  by_cases c : u < (n : Int)
  · by_cases k : e < rf u + dgU n f u
    · have hd2 := h.degO c
      have ho := (h.csr.old u (e - rf u) u0 c (by omega) (by omega)).1
      rw [show rf u + (e - rf u) = e from by omega] at ho
      rw [ho]
      have hn := h.hn
      have b1 := adj_bounds h.adj u0 (by omega)
      have b2 := adj_bounds h.adj (show (0 : Int) ≤ u + 1 by omega) (by omega)
      have := h.adj.2.2.2.2.2 (f u + (e - rf u)) (by omega) (by omega)
      omega
    · obtain ⟨i, i0, i1, _, _, hr, _⟩ := h.newE (u := u) (j := e - (rf u + dgU n f u)) c (by omega) (by omega)
      rw [show rf u + dgU n f u + (e - (rf u + dgU n f u)) = e from by omega] at hr
      rw [hr]
      have := h.low i0 i1
      omega
  · obtain ⟨l, l0, l1, x0, x1⟩ := h.list (x := u - n) (by omega) (by omega)
    have hr := h.relay l0 l1 x0 x1
    have hz := h.node l0 l1 x0 x1
    rw [show (n : Int) + (u - n) = u from by omega] at hr
    have hm := rel_mono lf lt L1 (j := l + 1) (k := nl) (by omega) (by omega)
    have hT := h.hT
    by_cases k : e = rf u
    · rw [k, hr.1]; omega
    · rcases hr.2.2 with ⟨q1, q2, q3, _⟩ | ⟨q1, q2⟩
      · rw [show e = rf u + 1 from by omega, q3]; omega
      · omega
/-- Two links of one old node: they stand in order of where they lead. -/
theorem RA.ord (h : RA nl ns nt nf no n T m M M2 f o cl lf lt sr sl ss fr to rf ro rc L1 L2 Z1 Z2 hb ow tx) {i i' : Int} (i0 : 0 ≤ i) (ii : i < i') (i1 : i' < (M2 : Int)) (hf : fr i = fr i') : to i ≤ to i' := by
  have hub : ∀ a, (ns : Int) ≤ a → a < (M2 : Int) → tx ≤ fr a := fun a a0 a1 => by
    obtain ⟨s, q, ⟨s0, q0, hB⟩, hs, hq, hf, _⟩ := h.lk.base.hub a a0 a1
    have := (thF_pos s0 hs).2.2.1
    omega
  by_cases c : i' < (ns : Int)
  · have h1 := h.lk.base.sp i i0 (by omega)
    have h2 := h.lk.base.sp i' (by omega) c
    rw [h1.2, h2.2]
    have hle := h.sp.le (i' - i).toNat i i0 (by omega)
    rw [show i + (((i' - i).toNat : Nat) : Int) = i' from by omega] at hle
    have s1 := h.sp.1 i i0 (by omega)
    have s2 := h.sp.1 i' (by omega) c
    rcases hle with hle | ⟨e1, e2⟩
    · have hu := h.span i0 (show i < (ns : Int) by omega)
      have hm := rel_mono lf lt L1 (j := sl i + 1) (k := sl i') (by omega) (by omega)
      omega
    · rw [e1]; omega
  · by_cases c2 : i < (ns : Int)
    · have h1 := (h.lk.base.sp i i0 c2).1
      have s1 := h.sp.1 i i0 c2
      have := hub i' (by omega) i1
      omega
    · have := h.lk.base.inc i i' (by omega) ii i1
      omega
theorem RA.sorted (h : RA nl ns nt nf no n T m M M2 f o cl lf lt sr sl ss fr to rf ro rc L1 L2 Z1 Z2 hb ow tx) (hs : Srt f o n) : Srt rf ro T := by
  intro v e v0 v1 e0 e1
  have htn := h.txn
  obtain ⟨hs2, hd, hc⟩ := h.rfs v0 v1
  by_cases c : v < (n : Int)
  · have hd2 := h.degO c
    have hn := h.hn
    have b1 := adj_bounds h.adj v0 (by omega)
    have b2 := adj_bounds h.adj (show (0 : Int) ≤ v + 1 by omega) (by omega)
    have old : ∀ e, rf v ≤ e → e < rf v + dgU n f v → ro e = o (f v + (e - rf v)) ∧ ro e < (n : Int) := fun e a b => by
      have ho := (h.csr.old v (e - rf v) v0 c (by omega) (by omega)).1
      rw [show rf v + (e - rf v) = e from by omega] at ho
      have := h.adj.2.2.2.2.2 (f v + (e - rf v)) (by omega) (by omega)
      exact ⟨ho, by omega⟩
    have new : ∀ e, rf v + dgU n f v ≤ e → e < rf (v + 1) → ∃ i, 0 ≤ i ∧ i < (M2 : Int) ∧ fr i = v ∧ cntU fr v i = e - (rf v + dgU n f v) ∧ ro e = to i := fun e a b => by
      obtain ⟨i, i0, i1, hf, hc9, hr, _⟩ := h.newE (u := v) (j := e - (rf v + dgU n f v)) c (by omega) (by omega)
      rw [show rf v + dgU n f v + (e - (rf v + dgU n f v)) = e from by omega] at hr
      exact ⟨i, i0, i1, hf, hc9, hr⟩
    by_cases k : e < rf v + dgU n f v
    · rw [(old e (by omega) k).1, (old (e - 1) (by omega) (by omega)).1]
      have := hs v (f v + (e - rf v)) v0 c (by omega) (by omega)
      rw [show f v + (e - 1 - rf v) = f v + (e - rf v) - 1 from by omega]
      exact this
    · obtain ⟨i, i0, i1, hf, hc9, hr⟩ := new e (by omega) e1
      rw [hr]
      have hlo := h.low i0 i1
      by_cases k2 : e - 1 < rf v + dgU n f v
      · have := (old (e - 1) (by omega) k2).2
        omega
      · obtain ⟨i', j0, j1, hf', hc', hr'⟩ := new (e - 1) (by omega) (by omega)
        rw [hr']
        rcases Int.lt_trichotomy i' i with hlt | heq | hgt
        · exact h.ord j0 hlt i1 (by omega)
        · subst heq; omega
        · have := cntU_lt (fr := fr) i0 hgt hf; omega
  · obtain ⟨l, l0, l1, x0, x1⟩ := h.list (x := v - n) (by omega) (by omega)
    have hr := h.relay l0 l1 x0 x1
    have hz := h.node l0 l1 x0 x1
    rw [show (n : Int) + (v - n) = v from by omega] at hr
    rcases hr.2.2 with ⟨q1, q2, q3, _⟩ | ⟨q1, q2⟩
    · rw [show e = rf v + 1 from by omega, q3, show rf v + 1 - 1 = rf v from by omega, hr.1]; omega
    · omega
end
end Go.Proofs.Qxb6001307a
