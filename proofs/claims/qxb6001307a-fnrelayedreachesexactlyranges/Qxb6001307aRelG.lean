/-
  OWN WORK. The counting sort of relayed: plain.
-/
import Derived.Test.Qxb6001307aRelF
namespace Go.Proofs.Qxb6001307a
set_option linter.unusedSimpArgs false
set_option linter.unusedVariables false

theorem rel_step (lf lt : Int → Int) (L : Int → Nat) {k : Int} (h : 0 ≤ k) : rel lf lt L (k + 1) ≤ rel lf lt L k + (L k : Nat) := by
  by_cases hu : lf k < lf (k + 1) ∨ 0 ≤ lt k
  · rw [rel_yes h hu]; omega
  · rw [rel_no h hu]; omega

section
variable {nl ns nt : Nat} {n tx : Int} {hb : Int → Bool} {L2 : Int → Nat} {Z1 Z2 : Int → Int → Int} {re sr sl ss : Int → Int} {M M2 : Nat} {fr to : Int → Int}
theorem Lk2.rng (h : Lk2 ns n tx hb L2 Z2 re sr sl ss nt 0 M fr to) (htx0 : 0 ≤ tx) (hhu : tx + hu hb L2 nt = n) (hsr : ∀ i, 0 ≤ i → i < (ns : Int) → 0 ≤ sr i ∧ sr i < tx) : ∀ a, 0 ≤ a → a < (M : Int) → 0 ≤ fr a ∧ fr a < n := by
  intro a a0 a1
  have hub := (hu_b hb L2 (t := nt) (by omega)).1
  by_cases c : a < (ns : Int)
  · rw [(h.sp a a0 c).1]
    have := hsr a a0 c
    omega
  · obtain ⟨s, q, ⟨s0, q0, hB⟩, hs, hq, hf, _⟩ := h.hub a (by omega) a1
    have e2 := thF_pos s0 hs
    have hm := hu_mono hb L2 (j := s + 1) (k := nt) (by omega) (by omega)
    have hb0 := (hu_b hb L2 s0).1
    omega
theorem Lk3.rng {cur : Int} (h : Lk3 nl ns n tx hb L2 Z1 Z2 re sr sl ss nt M2 cur M fr to) (hn : 0 ≤ n) (hc : 0 ≤ cur) (htx0 : 0 ≤ tx) (hhu : tx + hu hb L2 nt = n) (hsr : ∀ i, 0 ≤ i → i < (ns : Int) → 0 ≤ sr i ∧ sr i < tx) : ∀ a, 0 ≤ a → a < (M : Int) → 0 ≤ fr a ∧ fr a < n + cur := by
  intro a a0 a1
  by_cases c : a < (M2 : Int)
  · have := h.base.rng htx0 hhu hsr a a0 c
    omega
  · have := h.rl a (by omega) a1
    omega
end

/-- How many of the first 'k' links lead from below 'u'. -/
def cntB (fr : Int → Int) (u k : Int) : Int := sumF (fun i => if fr i < u then 1 else 0) k.toNat
theorem cntB_b (fr : Int → Int) (u : Int) {k : Int} (h : 0 ≤ k) : 0 ≤ cntB fr u k ∧ cntB fr u k ≤ k := by
  have := sumF_bound (h := fun i => if fr i < u then 1 else 0) (lo := 0) (hi := 1) (n := k.toNat) (fun j _ _ => by constructor <;> split <;> omega)
  unfold cntB
  omega
theorem cntB_succ (fr : Int → Int) (u : Int) (k : Nat) : cntB fr (u + 1) k = cntB fr u k + cntU fr u k := by
  induction k with
  | zero => rfl
  | succ k ih =>
    have e : ∀ v, cntB fr v ((k + 1 : Nat) : Int) = cntB fr v k + (if fr k < v then 1 else 0) := fun v => by
      unfold cntB
      rw [show ((k + 1 : Nat) : Int).toNat = k + 1 from by omega, sumF, show ((k : Nat) : Int).toNat = k from by omega]
    rw [e, e, ih, show ((k + 1 : Nat) : Int) = (k : Int) + 1 from by omega]
    by_cases h : fr k = u
    · rw [cntU_yes (by omega) h, if_pos (by omega), if_neg (by omega)]; omega
    · rw [cntU_no (by omega) h]
      by_cases h2 : fr k < u
      · rw [if_pos (by omega), if_pos h2]; omega
      · rw [if_neg (by omega), if_neg h2]; omega
theorem cntB_zero {fr : Int → Int} {k : Nat} (h : ∀ a, 0 ≤ a → a < (k : Int) → 0 ≤ fr a) : cntB fr 0 k = 0 := by
  unfold cntB
  refine sumF_zero fun j a b => ?_
  show (if fr j < 0 then (1 : Int) else 0) = 0
  rw [if_neg (by have := h j a (by omega); omega)]
theorem cntB_mono (fr : Int → Int) {u v : Int} (k : Nat) (h : u ≤ v) : cntB fr u k ≤ cntB fr v k := by
  obtain ⟨d, hd⟩ : ∃ d : Nat, v = u + d := ⟨(v - u).toNat, by omega⟩
  subst hd
  clear h
  induction d with
  | zero => simp
  | succ d ih =>
    rw [show u + ((d + 1 : Nat) : Int) = (u + d) + 1 from by omega, cntB_succ]
    have := (cntU_b fr (u + d) (k := (k : Int)) (by omega)).1
    omega
def pfx (n : Nat) (f fr : Int → Int) (M : Nat) (v : Int) : Int := (if v ≤ (n : Int) then f v else f n) + cntB fr v M
theorem pfx_succ (n : Nat) (f fr : Int → Int) (M : Nat) {v : Int} : pfx n f fr M (v + 1) = pfx n f fr M v + (dgU n f v + cntU fr v M) := by
  unfold pfx dgU
  rw [cntB_succ]
  by_cases h : v < (n : Int)
  · rw [if_pos (by omega), if_pos (by omega), if_pos h]; omega
  · rw [if_neg (by omega), if_neg h]
    by_cases h2 : v ≤ (n : Int)
    · rw [if_pos h2, show v = (n : Int) from by omega]; omega
    · rw [if_neg h2]; omega
theorem pfx_zero {n : Nat} {f fr : Int → Int} {M : Nat} (h0 : f 0 = 0) (h : ∀ a, 0 ≤ a → a < (M : Int) → 0 ≤ fr a) : pfx n f fr M 0 = 0 := by
  unfold pfx
  rw [if_pos (by omega), cntB_zero h, h0]; rfl
theorem dgU_b {n nf no nc : Nat} {f o : Int → Int} (hadj : AdjOK nf no nc f o) (hn : (n : Int) = (nf : Int) - 1) {v : Int} (hv : 0 ≤ v) : 0 ≤ dgU n f v ∧ dgU n f v ≤ no := by
  unfold dgU
  by_cases h : v < (n : Int)
  · rw [if_pos h]
    have h1 := adj_bounds hadj hv (by omega)
    have h2 := adj_bounds hadj (show (0 : Int) ≤ v + 1 by omega) (by omega)
    have h3 := hadj.2.2.1 v hv (by omega)
    omega
  · rw [if_neg h]; omega
theorem pfx_b {n nf no nc : Nat} {f o : Int → Int} (fr : Int → Int) (M : Nat) (hadj : AdjOK nf no nc f o) (hn : (n : Int) = (nf : Int) - 1) {v : Int} (hv : 0 ≤ v) : 0 ≤ pfx n f fr M v ∧ pfx n f fr M v ≤ (no : Int) + M := by
  unfold pfx
  have := cntB_b fr v (k := (M : Int)) (by omega)
  by_cases h : v ≤ (n : Int)
  · rw [if_pos h]
    have h1 := adj_bounds hadj hv (by omega)
    omega
  · rw [if_neg h]
    have h1 := adj_bounds hadj (show (0 : Int) ≤ n by omega) (by omega)
    omega
theorem pfx_mono {n nf no nc : Nat} {f o : Int → Int} (fr : Int → Int) (M : Nat) (hadj : AdjOK nf no nc f o) (hn : (n : Int) = (nf : Int) - 1) {u v : Int} (hu : 0 ≤ u) (h : u ≤ v) : pfx n f fr M u ≤ pfx n f fr M v := by
  obtain ⟨d, hd⟩ : ∃ d : Nat, v = u + d := ⟨(v - u).toNat, by omega⟩
  subst hd
  clear h
  induction d with
  | zero => simp
  | succ d ih =>
    rw [show u + ((d + 1 : Nat) : Int) = (u + d) + 1 from by omega, pfx_succ]
    have h1 := (cntU_b fr (u + d) (k := (M : Int)) (by omega)).1
    have h2 := (dgU_b hadj hn (v := u + d) (by omega)).1
    omega
/-- The place of link 'i'. -/
def posL (n : Nat) (f fr rf : Int → Int) (i : Int) : Int := rf (fr i) + dgU n f (fr i) + cntU fr (fr i) i
section
variable {n nf no nc M T : Nat} {f o fr rf : Int → Int}
theorem rf_le (hadj : AdjOK nf no nc f o) (hn : (n : Int) = (nf : Int) - 1) (hrf : ∀ v, 0 ≤ v → v ≤ (T : Int) → rf v = pfx n f fr M v) {u v : Int} (hu : 0 ≤ u) (h : u < v) (hv : v ≤ (T : Int)) : rf u + (dgU n f u + cntU fr u M) ≤ rf v := by
  rw [hrf u hu (by omega), hrf v (by omega) hv, ← pfx_succ]
  exact pfx_mono fr M hadj hn (by omega) (by omega)
theorem posL_b (hadj : AdjOK nf no nc f o) (hn : (n : Int) = (nf : Int) - 1) (hrf : ∀ v, 0 ≤ v → v ≤ (T : Int) → rf v = pfx n f fr M v) (hfr : ∀ a, 0 ≤ a → a < (M : Int) → 0 ≤ fr a ∧ fr a < (T : Int)) {i : Int} (i0 : 0 ≤ i) (i1 : i < (M : Int)) : 0 ≤ posL n f fr rf i ∧ rf (fr i) + dgU n f (fr i) ≤ posL n f fr rf i ∧ posL n f fr rf i < rf (fr i) + (dgU n f (fr i) + cntU fr (fr i) M) ∧ posL n f fr rf i < rf T := by
  have hi := hfr i i0 i1
  have h1 := rf_le hadj hn hrf hi.1 hi.2 (Int.le_refl _)
  have h2 := cntU_lt (fr := fr) i0 i1 rfl
  have h3 := (cntU_b fr (fr i) i0).1
  have h4 := (dgU_b hadj hn hi.1).1
  have h5 := (pfx_b fr M hadj hn hi.1).1
  have h6 := hrf (fr i) hi.1 (by omega)
  unfold posL
  omega
theorem posL_ne (hadj : AdjOK nf no nc f o) (hn : (n : Int) = (nf : Int) - 1) (hrf : ∀ v, 0 ≤ v → v ≤ (T : Int) → rf v = pfx n f fr M v) (hfr : ∀ a, 0 ≤ a → a < (M : Int) → 0 ≤ fr a ∧ fr a < (T : Int)) {i j : Int} (i0 : 0 ≤ i) (ij : i < j) (j1 : j < (M : Int)) : posL n f fr rf i ≠ posL n f fr rf j := by
  have hi := hfr i i0 (by omega)
  have hj := hfr j (by omega) j1
  have bi := posL_b hadj hn hrf hfr i0 (by omega)
  have bj := posL_b hadj hn hrf hfr (show 0 ≤ j by omega) j1
  have di := (dgU_b hadj hn hi.1).1
  have dj := (dgU_b hadj hn hj.1).1
  rcases Int.lt_trichotomy (fr i) (fr j) with h | h | h
  · have := rf_le hadj hn hrf hi.1 h (by omega); omega
  · have h2 := cntU_lt (fr := fr) i0 ij h
    unfold posL
    rw [h]
    omega
  · have := rf_le hadj hn hrf hj.1 h (by omega); omega
theorem posL_old (hadj : AdjOK nf no nc f o) (hn : (n : Int) = (nf : Int) - 1) (hnT : n ≤ T) (hrf : ∀ v, 0 ≤ v → v ≤ (T : Int) → rf v = pfx n f fr M v) (hfr : ∀ a, 0 ≤ a → a < (M : Int) → 0 ≤ fr a ∧ fr a < (T : Int)) {i v k : Int} (i0 : 0 ≤ i) (i1 : i < (M : Int)) (v0 : 0 ≤ v) (v1 : v < (n : Int)) (k0 : 0 ≤ k) (k1 : k < f (v + 1) - f v) : posL n f fr rf i ≠ rf v + k := by
  have hi := hfr i i0 i1
  have bi := posL_b hadj hn hrf hfr i0 i1
  have di := (dgU_b hadj hn hi.1).1
  have hd : dgU n f v = f (v + 1) - f v := by unfold dgU; rw [if_pos v1]
  have hc := (cntU_b fr v (k := (M : Int)) (by omega)).1
  rcases Int.lt_trichotomy (fr i) v with h | h | h
  · have := rf_le hadj hn hrf hi.1 h (by omega); omega
  · subst h; omega
  · have := rf_le hadj hn hrf v0 h (by omega); omega
theorem old_ne (hadj : AdjOK nf no nc f o) (hn : (n : Int) = (nf : Int) - 1) (hnT : n ≤ T) (hrf : ∀ v, 0 ≤ v → v ≤ (T : Int) → rf v = pfx n f fr M v) {u v k : Int} (v0 : 0 ≤ v) (vu : v < u) (u1 : u < (n : Int)) (k1 : k < f (v + 1) - f v) : rf v + k < rf u := by
  have hd : dgU n f v = f (v + 1) - f v := by unfold dgU; rw [if_pos (by omega)]
  have hc := (cntU_b fr v (k := (M : Int)) (by omega)).1
  have := rf_le hadj hn hrf v0 vu (by omega)
  omega
end
end Go.Proofs.Qxb6001307a
