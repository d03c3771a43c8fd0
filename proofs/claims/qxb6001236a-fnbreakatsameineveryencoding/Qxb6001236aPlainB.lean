/-
  OWN WORK. The three laws on code units: plain.
-/
import Derived.Test.Qxb6001236aBooks
namespace Go.Proofs.Qxb6001236a
set_option linter.unusedSimpArgs false
set_option linter.unusedVariables false
theorem brk_ok {n : Int} {d : Int → Int} {s z l i : Int} : 0 ≤ brk n d s z l i ∧ brk n d s z l i ≤ 2 ∧ (0 < brk n d s z l i → i ≤ (n - s) / z - brk n d s z l i) ∧ (brk n d s z l i = 2 → brk n d s z l (i + 1) = 1 ∧ i < (n - s) / z) := by
  unfold brk
  by_cases h1 : asc n d s z l i = 13
  · have hl := asc_lt (n := n) (d := d) (s := s) (z := z) (l := l) (i := i) (by omega)
    rw [if_pos h1]
    by_cases h2 : asc n d s z l (i + 1) = 10
    · have hl2 := asc_lt (n := n) (d := d) (s := s) (z := z) (l := l) (i := i + 1) (by omega)
      rw [if_pos h2]
      refine ⟨by omega, by omega, fun _ => by omega, fun _ => ⟨?_, hl⟩⟩
      rw [if_neg (by omega), if_pos h2]
    · rw [if_neg h2]
      exact ⟨by omega, by omega, fun _ => by omega, fun h => by omega⟩
  · rw [if_neg h1]
    by_cases h2 : asc n d s z l i = 10
    · have hl := asc_lt (n := n) (d := d) (s := s) (z := z) (l := l) (i := i) (by omega)
      rw [if_pos h2]
      exact ⟨by omega, by omega, fun _ => by omega, fun h => by omega⟩
    · rw [if_neg h2]
      exact ⟨by omega, by omega, fun h => by omega, fun h => by omega⟩
theorem uo_same {n N : Int} {d g : Int → Int} (hN : n ≤ N) (hg : ∀ i, 0 ≤ i → i < n → g i = d i) (h : 3 ≤ n ∨ (uo n d).2.1 = 2) : uo N g = uo n d := by
  by_cases h3 : 3 ≤ n
  · unfold uo
    rw [hg 0 (by omega) (by omega), hg 1 (by omega) (by omega), hg 2 (by omega) (by omega)]
    have e2 : (2 ≤ N) = (2 ≤ n) := by rw [eq_iff_iff]; omega
    have e3 : (3 ≤ N) = (3 ≤ n) := by rw [eq_iff_iff]; omega
    simp only [e2, e3]
  · have hz := h.resolve_left h3
    by_cases h2 : 2 ≤ n
    · have e0 := hg 0 (by omega) (by omega)
      have e1 := hg 1 (by omega) (by omega)
      unfold uo at hz ⊢
      by_cases c1 : 2 ≤ n ∧ d 0 = 255 ∧ d 1 = 254
      · rw [if_pos c1, if_pos (by rw [e0, e1]; exact ⟨by omega, c1.2⟩)]
      · rw [if_neg c1] at hz
        by_cases c2 : 2 ≤ n ∧ d 0 = 254 ∧ d 1 = 255
        · rw [if_neg c1, if_pos c2, if_neg (by rw [e0, e1]; exact fun h => c1 ⟨h2, h.2⟩), if_pos (by rw [e0, e1]; exact ⟨by omega, c2.2⟩)]
        · rw [if_neg c2, if_neg (by omega)] at hz
          simp at hz
    · unfold uo at hz
      rw [if_neg (by omega), if_neg (by omega), if_neg (by omega)] at hz
      simp at hz
/-- An ASCII book's unit. -/
def aAt (n : Int) (a : Int → Int) (i : Int) : Int := if n ≤ i then 128 else a i
def aBr (n : Int) (a : Int → Int) (i : Int) : Int := if aAt n a i = 13 then (if aAt n a (i + 1) = 10 then 2 else 1) else if aAt n a i = 10 then 1 else 0
theorem brk_of {N n : Int} {d a : Int → Int} {s z l : Int} (h : ∀ i, 0 ≤ i → asc N d s z l i = aAt n a i) {i : Int} (hi : 0 ≤ i) : brk N d s z l i = aBr n a i := by
  unfold brk aBr
  rw [h i hi, h (i + 1) (by omega)]
section
variable {n : Nat} {a E : Int → Int} (hA : ∀ i, 0 ≤ a i ∧ a i ≤ 127)
include hA
theorem plain_br {i : Int} (hi : 0 ≤ i) : brk n a (uo n a).1 (uo n a).2.1 (uo n a).2.2 i = aBr n a i := by
  have h0 := hA 0
  have hu : uo n a = (0, 1, 0) := by
    unfold uo
    rw [if_neg (by omega), if_neg (by omega), if_neg (by omega)]
  rw [hu]
  dsimp only
  refine brk_of (fun i hi => ?_) hi
  unfold asc aAt
  have hai := hA i
  by_cases c : (n : Int) ≤ i
  · rw [if_pos c, if_pos (by omega)]
  · rw [if_neg c, if_neg (by omega), show (0 : Int) + i * 1 + 0 = i from by omega, if_neg (by omega)]
theorem e1_br (hh : E 0 = 255 ∧ E 1 = 254) (hb : ∀ i, 0 ≤ i → i < (n : Int) → E (2 + 2 * i) = a i ∧ E (2 + 2 * i + 1) = 0) {i : Int} (hi : 0 ≤ i) : brk ((2 + 2 * n : Nat) : Int) E (uo ((2 + 2 * n : Nat) : Int) E).1 (uo ((2 + 2 * n : Nat) : Int) E).2.1 (uo ((2 + 2 * n : Nat) : Int) E).2.2 i = aBr n a i := by
  have hu : uo ((2 + 2 * n : Nat) : Int) E = (2, 2, 0) := by
    unfold uo
    rw [if_pos (by omega)]
  rw [hu]
  dsimp only
  refine brk_of (fun i hi => ?_) hi
  unfold asc aAt
  have hai := hA i
  by_cases c : (n : Int) ≤ i
  · rw [if_pos c, if_pos (by omega)]
  · have hbi := hb i hi (by omega)
    rw [if_neg c, if_neg (by omega), show (2 : Int) + i * 2 + 0 = 2 + 2 * i from by omega, show 2 + 2 * i + 1 - 2 * (0 : Int) = 2 + 2 * i + 1 from by omega, if_neg (by omega)]
    exact hbi.1
theorem e2_br (hh : E 0 = 254 ∧ E 1 = 255) (hb : ∀ i, 0 ≤ i → i < (n : Int) → E (2 + 2 * i) = 0 ∧ E (2 + 2 * i + 1) = a i) {i : Int} (hi : 0 ≤ i) : brk ((2 + 2 * n : Nat) : Int) E (uo ((2 + 2 * n : Nat) : Int) E).1 (uo ((2 + 2 * n : Nat) : Int) E).2.1 (uo ((2 + 2 * n : Nat) : Int) E).2.2 i = aBr n a i := by
  have hu : uo ((2 + 2 * n : Nat) : Int) E = (2, 2, 1) := by
    unfold uo
    rw [if_neg (by omega), if_pos (by omega)]
  rw [hu]
  dsimp only
  refine brk_of (fun i hi => ?_) hi
  unfold asc aAt
  have hai := hA i
  by_cases c : (n : Int) ≤ i
  · rw [if_pos c, if_pos (by omega)]
  · have hbi := hb i hi (by omega)
    rw [if_neg c, if_neg (by omega), show (2 : Int) + i * 2 + 1 = 2 + 2 * i + 1 from by omega, show 2 + 2 * i + 1 + 1 - 2 * (1 : Int) = 2 + 2 * i from by omega, if_neg (by omega)]
    exact hbi.2
theorem e3_br (hh : E 0 = 239 ∧ E 1 = 187 ∧ E 2 = 191) (hb : ∀ i, 0 ≤ i → i < (n : Int) → E (3 + i) = a i) {i : Int} (hi : 0 ≤ i) : brk ((3 + 1 * n : Nat) : Int) E (uo ((3 + 1 * n : Nat) : Int) E).1 (uo ((3 + 1 * n : Nat) : Int) E).2.1 (uo ((3 + 1 * n : Nat) : Int) E).2.2 i = aBr n a i := by
  have hu : uo ((3 + 1 * n : Nat) : Int) E = (3, 1, 0) := by
    unfold uo
    rw [if_neg (by omega), if_neg (by omega), if_pos (by omega)]
  rw [hu]
  dsimp only
  refine brk_of (fun i hi => ?_) hi
  unfold asc aAt
  have hai := hA i
  by_cases c : (n : Int) ≤ i
  · rw [if_pos c, if_pos (by omega)]
  · have hbi := hb i hi (by omega)
    rw [if_neg c, if_neg (by omega), show (3 : Int) + i * 1 + 0 = 3 + i from by omega, if_neg (by omega)]
    exact hbi
end
end Go.Proofs.Qxb6001236a
