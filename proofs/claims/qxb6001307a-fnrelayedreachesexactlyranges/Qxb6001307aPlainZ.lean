/-
  OWN WORK. The plain law of 'FnSplitGivesStrongComponents': marks, the rows of the reach matrix, the end.
-/
import Derived.Test.Qxb6001307aSplit
namespace Go.Proofs.Qxb6001307a
set_option linter.unusedSimpArgs false
set_option linter.unusedVariables false

theorem W_val {P : Program} {N : Nat} {B : Nat → Prop} {w0 : World} {W : List Oper → List (Nat × Value) → List (Nat × Bk) → Prop} (hW : Walk0 P N B w0 W) {L : List (Nat × Value)} {H : List (Nat × Bk)} {rest : List Oper} (d : Nat) {v v' : Value} (hv : lk L d = some v) (he : v = v') (h : W rest ((d, v') :: L) H) : W rest L H := by
  subst he
  refine hW.relab (fun t u ht => ?_) h
  rw [lk_cons] at ht
  split at ht
  · rename_i e; subst e; rw [hv]; exact ht
  · exact ht

/-! ### A square of cells -/
theorem sq_lt {n : Nat} {s y : Int} (h0 : 0 ≤ s) (h1 : s < (n : Int)) (h2 : 0 ≤ y) (h3 : y < (n : Int)) : 0 ≤ s * n + y ∧ s * n + y < (n : Int) * n ∧ 0 ≤ s * (n : Int) := by
  have e1 : 0 ≤ s * (n : Int) := Int.mul_nonneg h0 (by omega)
  have e2 : (s + 1) * (n : Int) ≤ (n : Int) * n := Int.mul_le_mul_of_nonneg_right (by omega) (by omega)
  rw [Int.add_mul, Int.one_mul] at e2
  omega
theorem sq_inj {n : Nat} {s s' y y' : Int} (h2 : 0 ≤ y) (h3 : y < (n : Int)) (h4 : 0 ≤ y') (h5 : y' < (n : Int)) (he : s * n + y = s' * n + y') : s = s' ∧ y = y' := by
  have key : ∀ a b : Int, a < b → a * (n : Int) + (n : Int) ≤ b * n := fun a b h => by
    have e2 : (a + 1) * (n : Int) ≤ b * n := Int.mul_le_mul_of_nonneg_right (by omega) (by omega)
    rw [Int.add_mul, Int.one_mul] at e2
    exact e2
  rcases Int.lt_trichotomy s s' with h | h | h
  · have := key s s' h; omega
  · subst h; exact ⟨rfl, by omega⟩
  · have := key s' s h; omega
theorem sq_le {n : Nat} (h : (n : Int) ≤ 1024) : 0 ≤ (n : Int) * n ∧ (n : Int) * n ≤ 1048576 := by
  have e1 : 0 ≤ (n : Int) * n := Int.mul_nonneg (by omega) (by omega)
  have e2 : (n : Int) * n ≤ 1024 * n := Int.mul_le_mul_of_nonneg_right h (by omega)
  omega

section
variable {n : Nat} {f o cl : Int → Int} {al : Int} {ou : Int → Bool}
/-- Marked so far in row 's'. -/
def Un (n : Nat) (s : Int) (rm : Int → Bool) : Int := sumF (fun y => if rm (s * n + y) = true then 0 else 1) n
theorem Un_b (n : Nat) (s : Int) (rm : Int → Bool) : 0 ≤ Un n s rm := by
  have := sumF_bound (h := fun y => if rm (s * n + y) = true then 0 else 1) (lo := 0) (hi := 1) (n := n) (fun j _ _ => by constructor <;> split <;> omega)
  unfold Un
  omega
theorem Un_mark {s y : Int} {rm : Int → Bool} (h2 : 0 ≤ y) (h3 : y < (n : Int)) (h : rm (s * n + y) = false) : Un n s (upd rm (s * n + y) true) = Un n s rm - 1 := by
  unfold Un
  have e : sumF (fun y' => if upd rm (s * n + y) true (s * n + y') = true then (0 : Int) else 1) n = sumF (upd (fun y' => if rm (s * n + y') = true then (0 : Int) else 1) y 0) n := by
    refine sumF_congr fun j _ _ => ?_
    show (if upd rm (s * n + y) true (s * n + j) = true then (0 : Int) else 1) = _
    by_cases ej : j = y
    · subst ej; rw [upd_same, upd_same]; rfl
    · rw [upd_other _ _ _ (by omega), upd_other _ _ _ ej]
  rw [e, sumF_upd h2 h3, h]
  simp
  omega

/-- The row of 's': what is marked is reached; what is marked is done or waits. -/
structure RowP (n : Nat) (f o cl : Int → Int) (al : Int) (ou : Int → Bool) (s x e : Int) (rm0 rm : Int → Bool) (wk : Int → Int) (q : Nat) : Prop where
  re : ∀ y, 0 ≤ y → y < (n : Int) → rm (s * n + y) = true → AL n ou y ∧ Reach (Ed f o cl al (AL n ou)) s y
  wo : ∀ i, 0 ≤ i → i < (q : Int) → 0 ≤ wk i ∧ wk i < (n : Int) ∧ rm (s * n + wk i) = true
  cl : ∀ z, 0 ≤ z → z < (n : Int) → rm (s * n + z) = true → (∃ i, 0 ≤ i ∧ i < (q : Int) ∧ wk i = z) ∨ (∀ e', f z ≤ e' → e' < (if z = x then e else f (z + 1)) → band (cl e') al ≠ 0 → AL n ou (o e') → rm (s * n + o e') = true)
  se : rm (s * n + s) = true
  ot : ∀ s' y, s' ≠ s → 0 ≤ y → y < (n : Int) → rm (s' * n + y) = rm0 (s' * n + y)
def RowI (n : Nat) (f o cl : Int → Int) (al : Int) (ou : Int → Bool) (s : Int) (rm0 rm : Int → Bool) (wk : Int → Int) (q : Nat) : Prop := RowP n f o cl al ou s (-1) 0 rm0 rm wk q

theorem RowI.start {s : Int} {rm : Int → Bool} {wk : Int → Int} (h0 : 0 ≤ s) (h1 : s < (n : Int)) (hs : AL n ou s) (hz : ∀ y, 0 ≤ y → y < (n : Int) → rm (s * n + y) = false) : RowI n f o cl al ou s rm (upd rm (s * n + s) true) (upd wk 0 s) 1 where
  re := fun y y0 y1 hy => by
    by_cases e : y = s
    · subst e; exact ⟨hs, Reach.refl _⟩
    · rw [upd_other _ _ _ (by omega), hz y y0 y1] at hy; cases hy
  wo := fun i i0 i1 => by
    obtain rfl : i = 0 := by omega
    rw [upd_same]; exact ⟨h0, h1, upd_same _ _ _⟩
  cl := fun z z0 z1 hz' => by
    by_cases e : z = s
    · exact .inl ⟨0, by omega, by omega, by rw [upd_same, e]⟩
    · rw [upd_other _ _ _ (by omega), hz z z0 z1] at hz'; cases hz'
  se := upd_same _ _ _
  ot := fun s' y hs' y0 y1 => upd_other _ _ _ fun e => hs' (sq_inj y0 y1 h0 h1 e).1
theorem RowI.pop {s : Int} {rm0 rm : Int → Bool} {wk : Int → Int} {q : Nat} (h : RowI n f o cl al ou s rm0 rm wk q) (hq : 0 < q) : RowP n f o cl al ou s (wk ((q : Int) - 1)) (f (wk ((q : Int) - 1))) rm0 rm wk ((q : Int) - 1).toNat where
  re := h.re
  wo := fun i i0 i1 => h.wo i i0 (by omega)
  cl := fun z z0 z1 hz => by
    rcases h.cl z z0 z1 hz with ⟨i, a, b, c⟩ | hc
    · by_cases e : i = (q : Int) - 1
      · right
        intro e' e0 e1
        rw [← e, c, if_pos rfl] at e1
        omega
      · exact .inl ⟨i, a, by omega, c⟩
    · right
      intro e' e0 e1 e2 e3
      refine hc e' e0 ?_ e2 e3
      rw [if_neg (by omega)]
      by_cases e : z = wk ((q : Int) - 1)
      · rw [if_pos e] at e1; rw [e] at e0; omega
      · rw [if_neg e] at e1; exact e1
  se := h.se
  ot := h.ot
theorem RowP.next {s x e : Int} {rm0 rm : Int → Bool} {wk : Int → Int} {q : Nat} (h : RowP n f o cl al ou s x e rm0 rm wk q) (he : band (cl e) al = 0 ∨ ou (o e) = true ∨ rm (s * n + o e) = true) : RowP n f o cl al ou s x (e + 1) rm0 rm wk q where
  re := h.re
  wo := h.wo
  cl := fun z z0 z1 hz => by
    rcases h.cl z z0 z1 hz with hc | hc
    · exact .inl hc
    · right
      intro e' e0 e1 e2 e3
      by_cases ez : z = x
      · rw [if_pos ez] at e1
        by_cases ee : e' = e
        · subst ee
          rcases he with he | he | he
          · exact absurd he e2
          · have := e3.2.2; rw [he] at this; cases this
          · exact he
        · exact hc e' e0 (by rw [if_pos ez]; omega) e2 e3
      · rw [if_neg ez] at e1
        exact hc e' e0 (by rw [if_neg ez]; exact e1) e2 e3
  se := h.se
  ot := h.ot
theorem RowP.mark {s x e : Int} {rm0 rm : Int → Bool} {wk : Int → Int} {q : Nat} (h : RowP n f o cl al ou s x e rm0 rm wk q) (hx0 : 0 ≤ x) (hx1 : x < (n : Int)) (hx : rm (s * n + x) = true) (he0 : f x ≤ e) (he1 : e < f (x + 1)) (hb : band (cl e) al ≠ 0) (h0 : 0 ≤ o e) (h1 : o e < (n : Int)) (ho : ou (o e) = false) :
    RowP n f o cl al ou s x (e + 1) rm0 (upd rm (s * n + o e) true) (upd wk (q : Int) (o e)) (q + 1) := by
  have hA : AL n ou (o e) := ⟨h0, h1, ho⟩
  have keep : ∀ j, rm j = true → upd rm (s * n + o e) true j = true := fun j hj => by
    by_cases ej : j = s * n + o e
    · subst ej; exact upd_same _ _ _
    · rw [upd_other _ _ _ ej]; exact hj
  refine ⟨fun y y0 y1 hy => ?_, fun i i0 i1 => ?_, fun z z0 z1 hz => ?_, keep _ h.se, fun s' y hs' y0 y1 => ?_⟩
  · by_cases ey : y = o e
    · subst ey
      have hr := h.re x hx0 hx1 hx
      exact ⟨hA, hr.2.step ⟨e, he0, he1, hb, rfl, hr.1, hA⟩⟩
    · rw [upd_other _ _ _ (by omega)] at hy; exact h.re y y0 y1 hy
  · by_cases ei : i = (q : Int)
    · subst ei; rw [upd_same]; exact ⟨h0, h1, upd_same _ _ _⟩
    · rw [upd_other _ _ _ ei]
      have := h.wo i i0 (by omega)
      exact ⟨this.1, this.2.1, keep _ this.2.2⟩
  · by_cases ez : z = o e
    · exact .inl ⟨q, by omega, by omega, by rw [upd_same, ez]⟩
    · rw [upd_other _ _ _ (by omega)] at hz
      rcases h.cl z z0 z1 hz with ⟨i, a, b, c⟩ | hc
      · exact .inl ⟨i, a, by omega, by rw [upd_other _ _ _ (by omega)]; exact c⟩
      · right
        intro e' e0 e1 e2 e3
        by_cases ezx : z = x
        · rw [if_pos ezx] at e1
          by_cases ee : e' = e
          · subst ee; exact upd_same _ _ _
          · exact keep _ (hc e' e0 (by rw [if_pos ezx]; omega) e2 e3)
        · rw [if_neg ezx] at e1
          exact keep _ (hc e' e0 (by rw [if_neg ezx]; exact e1) e2 e3)
  · rw [upd_other _ _ _ fun ee => hs' (sq_inj y0 y1 h0 h1 ee).1]
    exact h.ot s' y hs' y0 y1
theorem RowP.shut {s x e : Int} {rm0 rm : Int → Bool} {wk : Int → Int} {q : Nat} (h : RowP n f o cl al ou s x e rm0 rm wk q) (he : e = f (x + 1)) : RowI n f o cl al ou s rm0 rm wk q where
  re := h.re
  wo := h.wo
  cl := fun z z0 z1 hz => by
    rcases h.cl z z0 z1 hz with hc | hc
    · exact .inl hc
    · right
      intro e' e0 e1 e2 e3
      rw [if_neg (by omega)] at e1
      refine hc e' e0 ?_ e2 e3
      by_cases ez : z = x
      · rw [if_pos ez, he, ← ez]; exact e1
      · rw [if_neg ez]; exact e1
  se := h.se
  ot := h.ot
/-- All rows below 's' are right; those from 's' on are blank. -/
def Rows9 (n : Nat) (f o cl : Int → Int) (al : Int) (ou : Int → Bool) (s : Int) (rm : Int → Bool) : Prop :=
  (∀ s' y, 0 ≤ s' → s' < s → AL n ou s' → 0 ≤ y → y < (n : Int) → (rm (s' * n + y) = true ↔ AL n ou y ∧ Reach (Ed f o cl al (AL n ou)) s' y)) ∧ (∀ s' y, s ≤ s' → s' < (n : Int) → 0 ≤ y → y < (n : Int) → rm (s' * n + y) = false)
theorem Rows9.skip {s : Int} {rm : Int → Bool} (h : Rows9 n f o cl al ou s rm) (hs : ¬ AL n ou s) : Rows9 n f o cl al ou (s + 1) rm :=
  ⟨fun s' y a b c => by
    by_cases e : s' = s
    · subst e; exact absurd c hs
    · exact h.1 s' y a (by omega) c, fun s' y a b => h.2 s' y (by omega) b⟩
theorem RowI.done {s : Int} {rm0 rm : Int → Bool} {wk : Int → Int} {q : Nat} (h : RowI n f o cl al ou s rm0 rm wk q) (hq : q = 0) (hr : Rows9 n f o cl al ou s rm0) (hs0 : 0 ≤ s) (hs1 : s < (n : Int)) : Rows9 n f o cl al ou (s + 1) rm := by
  subst hq
  refine ⟨fun s' y a b c y0 y1 => ?_, fun s' y a b y0 y1 => ?_⟩
  · by_cases e : s' = s
    · subst e
      refine ⟨fun hy => h.re y y0 y1 hy, fun hy => ?_⟩
      have key := Reach.keep (E := Ed f o cl al (AL n ou)) (S := fun z => 0 ≤ z ∧ z < (n : Int) ∧ rm (s' * n + z) = true) (fun u v hu he => by
        obtain ⟨e', e0, e1, e2, rfl, e4, e5⟩ := he
        refine ⟨e5.1, e5.2.1, ?_⟩
        rcases h.cl u hu.1 hu.2.1 hu.2.2 with ⟨i, i0, i1, _⟩ | hc
        · omega
        · exact hc e' e0 (by rw [if_neg (by omega)]; exact e1) e2 e5) hy.2 ⟨hs0, hs1, h.se⟩
      exact key.2.2
    · rw [h.ot s' y e y0 y1]; exact hr.1 s' y a (by omega) c y0 y1
  · rw [h.ot s' y (by omega) y0 y1]; exact hr.2 s' y (by omega) b y0 y1

/-! ### The end -/
theorem SRel.le {x : SSt} (h : SRel n f o cl al ou x) {u v : Int} (hu : AL n ou u) (hr : Reach (Ed f o cl al (AL n ou)) u v) : x.comp v ≤ x.comp u := by
  have key := Reach.keep (E := Ed f o cl al (AL n ou)) (S := fun z => 1 ≤ x.comp z ∧ x.comp z ≤ x.comp u) (fun a b ha he => by
    obtain ⟨e', e0, e1, e2, rfl, e4, e5⟩ := he
    have := h.tk.eF a e' ha.1 e0 e1 e2 e5
    omega) hr ⟨h.all u hu, Int.le_refl _⟩
  exact key.2
theorem SRel.same {x : SSt} (h : SRel n f o cl al ou x) {rm : Int → Bool} {s : Int} (hs : s = n) (hr : Rows9 n f o cl al ou s rm) {u v : Int} (hu : AL n ou u) (hv : AL n ou v) : x.comp u = x.comp v ↔ (rm (u * n + v) = true ∧ rm (v * n + u) = true) := by
  subst hs
  rw [hr.1 u v hu.1 hu.2.1 hu hv.1 hv.2.1, hr.1 v u hv.1 hv.2.1 hv hu.1 hu.2.1]
  constructor
  · intro e
    exact ⟨⟨hv, h.tk.sR u v (h.all u hu) e.symm⟩, ⟨hu, h.tk.sR v u (h.all v hv) e⟩⟩
  · rintro ⟨⟨_, a⟩, ⟨_, b⟩⟩
    have h1 := h.le hu a
    have h2 := h.le hv b
    omega
theorem Un_le (n : Nat) (s : Int) (rm : Int → Bool) : Un n s rm ≤ n := by
  have := sumF_bound (h := fun y => if rm (s * n + y) = true then 0 else 1) (lo := 0) (hi := 1) (n := n) (fun j _ _ => by constructor <;> split <;> omega)
  unfold Un
  omega

/-! ### The counts -/
def CntI (comp : Int → Int) (K : Nat) (v : Int) (ct : Int → Int) : Prop := ∀ k, 1 ≤ k → k < (K : Int) → ct k = sumF (fun z => if comp z = k then 1 else 0) v.toNat
theorem CntI.start (comp : Int → Int) (K : Nat) : CntI comp K 0 (fun _ => 0) := fun k _ _ => rfl
theorem CntI.out {comp : Int → Int} {K : Nat} {v : Int} {ct : Int → Int} (h : CntI comp K v ct) (h0 : 0 ≤ v) (hc : comp v = -1) : CntI comp K (v + 1) ct := by
  intro k k0 k1
  rw [show (v + 1).toNat = v.toNat + 1 from by omega, sumF, ← h k k0 k1, show ((v.toNat : Nat) : Int) = v from by omega]
  show _ = _ + (if comp v = k then (1 : Int) else 0)
  rw [if_neg (by omega)]
  omega
theorem CntI.inn {comp : Int → Int} {K : Nat} {v : Int} {ct : Int → Int} (h : CntI comp K v ct) (h0 : 0 ≤ v) : CntI comp K (v + 1) (upd ct (comp v) (ct (comp v) + 1)) := by
  intro k k0 k1
  rw [show (v + 1).toNat = v.toNat + 1 from by omega, sumF, ← h k k0 k1, show ((v.toNat : Nat) : Int) = v from by omega]
  show _ = _ + (if comp v = k then (1 : Int) else 0)
  by_cases e : comp v = k
  · subst e; rw [upd_same, if_pos rfl]
  · rw [upd_other _ _ _ (fun e2 => e e2.symm), if_neg e]; omega
theorem CntI.b {comp : Int → Int} {K : Nat} {v : Int} {ct : Int → Int} (h : CntI comp K v ct) (h0 : 0 ≤ v) {k : Int} (k0 : 1 ≤ k) (k1 : k < (K : Int)) : 0 ≤ ct k ∧ ct k ≤ v := by
  have := sumF_bound (h := fun z => if comp z = k then 1 else 0) (lo := 0) (hi := 1) (n := v.toNat) (fun j _ _ => by constructor <;> split <;> omega)
  rw [← h k k0 k1] at this
  omega
/-- How members and comp are laid. -/
def IniI (ou : Int → Bool) (v re : Int) (cp mm : Int → Int) : Prop :=
  re = sumF (fun z => if ou z = true then 0 else 1) v.toNat ∧ (∀ i, 0 ≤ i → i < v → cp i = (if ou i = true then -1 else 0) ∧ mm i = i) ∧ (∀ i, v ≤ i → cp i = 0)
theorem IniI.start (ou : Int → Bool) : IniI ou 0 0 (fun _ => 0) (fun _ => 0) := ⟨rfl, fun i a b => by omega, fun i _ => rfl⟩
theorem IniI.b {v re : Int} {cp mm : Int → Int} (h : IniI ou v re cp mm) (h0 : 0 ≤ v) : 0 ≤ re ∧ re ≤ v := by
  have := sumF_bound (h := fun z => if ou z = true then 0 else 1) (lo := 0) (hi := 1) (n := v.toNat) (fun j _ _ => by constructor <;> split <;> omega)
  rw [← h.1] at this
  omega
theorem IniI.out {v re : Int} {cp mm : Int → Int} (h : IniI ou v re cp mm) (h0 : 0 ≤ v) (ho : ou v = true) : IniI ou (v + 1) re (upd cp v (-1)) (upd mm v v) := by
  refine ⟨?_, fun i a b => ?_, fun i a => ?_⟩
  · rw [show (v + 1).toNat = v.toNat + 1 from by omega, sumF, ← h.1, show ((v.toNat : Nat) : Int) = v from by omega, ho]; simp
  · by_cases e : i = v
    · subst e; rw [upd_same, upd_same, ho]; exact ⟨rfl, rfl⟩
    · rw [upd_other _ _ _ e, upd_other _ _ _ e]; exact h.2.1 i a (by omega)
  · rw [upd_other _ _ _ (by omega)]; exact h.2.2 i (by omega)
theorem IniI.inn {v re : Int} {cp mm : Int → Int} (h : IniI ou v re cp mm) (h0 : 0 ≤ v) (ho : ou v = false) : IniI ou (v + 1) (re + 1) cp (upd mm v v) := by
  refine ⟨?_, fun i a b => ?_, fun i a => h.2.2 i (by omega)⟩
  · rw [show (v + 1).toNat = v.toNat + 1 from by omega, sumF, ← h.1, show ((v.toNat : Nat) : Int) = v from by omega, ho]; simp
  · by_cases e : i = v
    · subst e; rw [upd_same, ho]; exact ⟨h.2.2 i (Int.le_refl _), rfl⟩
    · rw [upd_other _ _ _ e]; exact h.2.1 i a (by omega)
theorem ou_false {y b : Bool} (h : y = b) (hy : y = false) : b = false := by rw [← h]; exact hy
end
end Go.Proofs.Qxb6001307a
