/-
  OWN WORK. Plain facts: bits of a byte, sums.
-/
import Derived.Test.Qxb6001307aKitF
namespace Go.Proofs.Qxb6001307a
set_option linter.unusedSimpArgs false
set_option linter.unusedVariables false

/-- Every bit of 'x' is one of 'y'. -/
def sub8 (x y : Int) : Prop := bandn x y = 0

theorem ofInt_toNat8 (x : BitVec 8) : BitVec.ofInt 8 (x.toNat : Int) = x := by
  apply BitVec.eq_of_toNat_eq
  have := x.isLt
  simp [BitVec.toNat_ofInt]
theorem sub8_iff {x y : Int} : sub8 x y ↔ ∀ i : Nat, (BitVec.ofInt 8 x).getLsbD i = true → (BitVec.ofInt 8 y).getLsbD i = true := by
  unfold sub8 bandn
  constructor
  · intro h i hi
    have h0 : (BitVec.ofInt 8 x &&& ~~~ BitVec.ofInt 8 y) = 0#8 := by
      apply BitVec.eq_of_toNat_eq
      have : ((BitVec.ofInt 8 x &&& ~~~ BitVec.ofInt 8 y).toNat : Int) = 0 := h
      simpa using this
    have h1 := congrArg (fun b => BitVec.getLsbD b i) h0
    have hlt : i < 8 := BitVec.lt_of_getLsbD hi
    simp [hi, hlt] at h1
    exact h1
  · intro h
    have h0 : (BitVec.ofInt 8 x &&& ~~~ BitVec.ofInt 8 y) = 0#8 := by
      apply BitVec.eq_of_getLsbD_eq
      intro i hi
      simp only [BitVec.getLsbD_and, BitVec.getLsbD_not, BitVec.getLsbD_zero]
      cases hx : (BitVec.ofInt 8 x).getLsbD i with
      | false => simp
      | true => simp [h i hx]
    rw [h0]; rfl
theorem sub8_refl (x : Int) : sub8 x x := sub8_iff.2 fun _ h => h
theorem sub8_trans {x y z : Int} (h1 : sub8 x y) (h2 : sub8 y z) : sub8 x z := sub8_iff.2 fun i h => sub8_iff.1 h2 i (sub8_iff.1 h1 i h)
theorem sub8_zero (y : Int) : sub8 0 y := sub8_iff.2 fun i h => by simp at h
theorem sub8_bor {a b y : Int} : sub8 (bor a b) y ↔ sub8 a y ∧ sub8 b y := by
  simp only [sub8_iff, bor, ofInt_toNat8, BitVec.getLsbD_or, Bool.or_eq_true]
  constructor
  · intro h
    exact ⟨fun i hi => h i (.inl hi), fun i hi => h i (.inr hi)⟩
  · rintro ⟨h1, h2⟩ i (hi | hi)
    · exact h1 i hi
    · exact h2 i hi
theorem sub8_band (a b : Int) : sub8 (band a b) b := by
  simp only [sub8_iff, band, ofInt_toNat8, BitVec.getLsbD_and, Bool.and_eq_true]
  exact fun i h => h.2

/-- 'x' is what the bytes of 'S' come to, taken together. -/
structure Lub (x : Int) (S : Int → Prop) : Prop where
  up : ∀ z, S z → sub8 z x
  least : ∀ y, (∀ z, S z → sub8 z y) → sub8 x y
theorem Lub.zero {S : Int → Prop} (h : ∀ z, ¬ S z) : Lub 0 S := ⟨fun z hz => absurd hz (h z), fun y _ => sub8_zero y⟩
theorem Lub.same {x : Int} {S S' : Int → Prop} (h : Lub x S) (he : ∀ z, S z ↔ S' z) : Lub x S' := ⟨fun z hz => h.up z ((he z).2 hz), fun y hy => h.least y fun z hz => hy z ((he z).1 hz)⟩
theorem Lub.add {x : Int} {S S' : Int → Prop} (h : Lub x S) (z : Int) (he : ∀ y, S' y ↔ S y ∨ y = z) : Lub (bor x z) S' := by
  have hx := (sub8_bor (a := x) (b := z) (y := bor x z)).1 (sub8_refl _)
  refine ⟨fun y hy => ?_, fun y hy => sub8_bor.2 ⟨h.least y fun u hu => hy u ((he u).2 (.inl hu)), hy z ((he z).2 (.inr rfl))⟩⟩
  rcases (he y).1 hy with hs | rfl
  · exact sub8_trans (h.up y hs) hx.1
  · exact hx.2

/-- h 0 + .. + h (n - 1) -/
def sumF (h : Int → Int) : Nat → Int
  | 0 => 0
  | n + 1 => sumF h n + h (n : Int)
theorem sumF_bound {h : Int → Int} {lo hi : Int} {n : Nat} (hb : ∀ j : Int, 0 ≤ j → j < (n : Int) → lo ≤ h j ∧ h j ≤ hi) : (n : Int) * lo ≤ sumF h n ∧ sumF h n ≤ (n : Int) * hi := by
  induction n with
  | zero => simp [sumF]
  | succ n ih =>
    have h1 := ih fun j h0 h1 => hb j h0 (by omega)
    have h2 := hb (n : Int) (by omega) (by omega)
    simp only [sumF]
    have e1 : ((n + 1 : Nat) : Int) * lo = (n : Int) * lo + lo := by rw [Int.natCast_add, Int.add_mul]; simp
    have e2 : ((n + 1 : Nat) : Int) * hi = (n : Int) * hi + hi := by rw [Int.natCast_add, Int.add_mul]; simp
    omega
theorem sumF_congr {h g : Int → Int} {n : Nat} (hb : ∀ j : Int, 0 ≤ j → j < (n : Int) → h j = g j) : sumF h n = sumF g n := by
  induction n with
  | zero => rfl
  | succ n ih =>
    simp only [sumF]
    rw [ih fun j h0 h1 => hb j h0 (by omega), hb (n : Int) (by omega) (by omega)]

theorem Gs.some {k : Bk} {sz len : Nat} {a : Option Addr} {cap : Nat} (h : Gs k sz len (.slice a len cap)) (hl : 0 < len) : a = Option.some ⟨k.b, 0, none⟩ ∧ k.size = cap * sz ∧ len ≤ cap := by
  rcases h with ⟨_, h0, _⟩ | ⟨_, cap', he, hs, hc⟩
  · omega
  · cases he; exact ⟨rfl, hs, hc⟩
theorem Gs.rd {B : Nat → Prop} {w0 : World} {H : List (Nat × Bk)} {q b sz len cap : Nat} {m : Int} {c : Int → Value} {a : Option Addr} (hq : lkH H q = Option.some ⟨b, sz, m, c⟩) (h : Gs ⟨b, sz, m, c⟩ 1 len (.slice a len cap)) (hm : (len : Int) ≤ m) : Rd B w0 H (.slice a len cap) len c :=
  Rd_sl hq (fun hl => (h.some hl).1) hm
end Go.Proofs.Qxb6001307a
