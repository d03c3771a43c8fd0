/-
  OWN WORK. More plain law of 'FnTakeScriptTilesStack'.
-/
import Derived.Test.Qxb6001307aPlainT
namespace Go.Proofs.Qxb6001307a
set_option linter.unusedSimpArgs false
set_option linter.unusedVariables false

def SeenI (n : Nat) (st : Int → Int) (k : Int) (g : Int → Bool) : Prop :=
  (∀ i, 0 ≤ i → i < k → 0 ≤ st i ∧ st i < (n : Int)) ∧ (∀ i j, 0 ≤ i → i < j → j < k → st i ≠ st j) ∧ (∀ v, g v = true ↔ ∃ i, 0 ≤ i ∧ i < k ∧ st i = v)
def OnI (st : Int → Int) (k : Int) (g : Int → Bool) : Prop := ∀ v, g v = true ↔ ∃ i, 0 ≤ i ∧ i < k ∧ st i = v
theorem OnI.start (st : Int → Int) : OnI st 0 (fun _ => false) := fun v => ⟨fun h => by simp at h, fun ⟨i, h0, h1, _⟩ => by omega⟩
theorem OnI.next {st : Int → Int} {k : Int} {g : Int → Bool} (h : OnI st k g) (hk : 0 ≤ k) : OnI st (k + 1) (upd g (st k) true) := by
  intro v
  by_cases e : v = st k
  · subst e
    rw [upd_same]
    exact ⟨fun _ => ⟨k, hk, by omega, rfl⟩, fun _ => rfl⟩
  · rw [upd_other _ _ _ e, h v]
    constructor
    · rintro ⟨i, a, b, c⟩; exact ⟨i, a, by omega, c⟩
    · rintro ⟨i, a, b, c⟩
      have : i ≠ k := fun e2 => by subst e2; exact e c.symm
      exact ⟨i, a, by omega, c⟩
theorem SeenI.start (n : Nat) (st : Int → Int) : SeenI n st 0 (fun _ => false) := ⟨fun i h0 h1 => by omega, fun i j h0 h1 h2 => by omega, OnI.start st⟩
theorem SeenI.next {n : Nat} {st : Int → Int} {k : Int} {g : Int → Bool} (h : SeenI n st k g) (hk : 0 ≤ k) (h0 : 0 ≤ st k) (h1 : st k < (n : Int)) (hg : g (st k) = false) : SeenI n st (k + 1) (upd g (st k) true) := by
  refine ⟨fun i a b => ?_, fun i j a b c e => ?_, OnI.next h.2.2 hk⟩
  · by_cases e : i = k
    · subst e; exact ⟨h0, h1⟩
    · exact h.1 i a (by omega)
  · by_cases ej : j = k
    · subst ej
      have := (h.2.2 (st j)).2 ⟨i, a, by omega, e⟩
      rw [hg] at this; cases this
    · exact h.2.1 i j a b (by omega) e

theorem Cuts.down {s : Nat} {cu : Int → Int} {q : Nat} (hq : Cuts s cu q) {j : Int} (h0 : 0 ≤ j) (h1 : j < (q : Int)) : tp s cu q ≤ cu j := by
  have hdec : ∀ k : Nat, j + 1 + k ≤ (q : Int) → tp s cu (j + 1 + k) ≤ cu j := by
    intro k
    induction k with
    | zero => intro _; rw [show j + 1 + ((0 : Nat) : Int) = j + 1 from by omega, tp_succ s cu h0]; omega
    | succ k ih =>
      intro hk
      have h4 := ih (by omega)
      have h5 := hq (j + 1 + k) (by omega) (by omega)
      rw [show j + 1 + ((k + 1 : Nat) : Int) = (j + 1 + k) + 1 from by omega, tp_succ s cu (by omega)]
      omega
  have h6 := hdec ((q : Int) - (j + 1)).toNat (by omega)
  rw [show j + 1 + ((((q : Int) - (j + 1)).toNat : Nat) : Int) = (q : Int) from by omega] at h6
  exact h6
theorem Cuts.tile {s : Nat} {cu : Int → Int} {q : Int} (hq : Cuts s cu q) (k : Nat) (hk : (k : Int) ≤ q) {i : Int} (h0 : tp s cu k ≤ i) (h1 : i < (s : Int)) : ∃ j, 0 ≤ j ∧ j < (k : Int) ∧ cu j ≤ i ∧ i < tp s cu j := by
  induction k with
  | zero => rw [show ((0 : Nat) : Int) = 0 from rfl, tp_zero] at h0; omega
  | succ k ih =>
    rw [show ((k + 1 : Nat) : Int) = (k : Int) + 1 from by omega, tp_succ s cu (by omega)] at h0
    by_cases h : i < tp s cu k
    · exact ⟨k, by omega, by omega, h0, h⟩
    · obtain ⟨j, a, b, c, d⟩ := ih (by omega) (by omega)
      exact ⟨j, a, by omega, c, d⟩
theorem Cuts.lei {s : Nat} {cu : Int → Int} {q : Int} (h : Cuts s cu q) {k : Int} (h0 : 0 ≤ k) (h1 : k ≤ q) : 0 ≤ tp s cu k ∧ tp s cu k ≤ s := by
  have := h.le k.toNat (by omega)
  rw [show ((k.toNat : Nat) : Int) = k from by omega] at this
  exact this

/-- The segments, as the law writes them down. -/
def SegI (s : Nat) (st cu : Int → Int) (k : Int) (sg : Int → Int) : Prop :=
  (∀ j i, 0 ≤ j → j < k → cu j ≤ i → i < tp s cu j → sg (st i) = j + 1) ∧ (∀ v, (∀ i, tp s cu k ≤ i → i < (s : Int) → st i ≠ v) → sg v = 0)
def SegP (s : Nat) (st cu : Int → Int) (k i : Int) (sg : Int → Int) : Prop :=
  (∀ j i', 0 ≤ j → j < k → cu j ≤ i' → i' < tp s cu j → sg (st i') = j + 1) ∧ (∀ i', cu k ≤ i' → i' < i → sg (st i') = k + 1) ∧
  (∀ v, (∀ i', (tp s cu k ≤ i' ∨ (cu k ≤ i' ∧ i' < i)) → i' < (s : Int) → st i' ≠ v) → sg v = 0)
theorem SegI.zero (s : Nat) (st cu : Int → Int) : SegI s st cu 0 (fun _ => 0) := ⟨fun j i h0 h1 => by omega, fun v _ => rfl⟩
theorem SegI.open {s : Nat} {st cu : Int → Int} {k : Int} {sg : Int → Int} (h : SegI s st cu k sg) : SegP s st cu k (cu k) sg :=
  ⟨h.1, fun i' a b => by omega, fun v hv => h.2 v fun i a b => hv i (.inl a) b⟩
theorem SegP.next {s q : Nat} {st cu : Int → Int} {k i : Int} {sg : Int → Int} (h : SegP s st cu k i sg) (hq : Cuts s cu q) (h0 : 0 ≤ k) (h1 : k < (q : Int)) (hi0 : cu k ≤ i) (hi1 : i < tp s cu k)
    (hdis : ∀ i j, 0 ≤ i → i < j → j < (s : Int) → st i ≠ st j) : SegP s st cu k (i + 1) (upd sg (st i) (k + 1)) := by
  have hck := hq k h0 h1
  refine ⟨fun j i' a b c d => ?_, fun i' a b => ?_, fun v hv => ?_⟩
  · have hd : tp s cu k ≤ cu j := by
      have := Cuts.down (q := k.toNat) (s := s) (cu := cu) (fun j a b => hq j a (by omega)) a (by omega)
      rw [show ((k.toNat : Nat) : Int) = k from by omega] at this
      exact this
    have hls := hq.lei a (by omega : j ≤ (q : Int))
    rw [upd_other _ _ _ (fun e => hdis i i' (by omega) (by omega) (by omega) e.symm)]
    exact h.1 j i' a b c d
  · by_cases e : i' = i
    · subst e; exact upd_same _ _ _
    · have hls := hq.lei h0 (by omega : k ≤ (q : Int))
      rw [upd_other _ _ _ (fun e2 => hdis i' i (by omega) (by omega) (by omega) e2)]
      exact h.2.1 i' a (by omega)
  · have hls := hq.lei h0 (by omega : k ≤ (q : Int))
    rw [upd_other _ _ _ (fun e => hv i (.inr ⟨hi0, by omega⟩) (by omega) e.symm)]
    exact h.2.2 v fun i' a b => hv i' (a.elim .inl fun c => .inr ⟨c.1, by omega⟩) b
theorem SegP.shut {s q : Nat} {st cu : Int → Int} {k : Int} {sg : Int → Int} (h : SegP s st cu k (tp s cu k) sg) (hq : Cuts s cu q) (h0 : 0 ≤ k) (h1 : k < (q : Int)) : SegI s st cu (k + 1) sg := by
  have hck := hq k h0 h1
  refine ⟨fun j i a b c d => ?_, fun v hv => ?_⟩
  · by_cases e : j = k
    · subst e; exact h.2.1 i c d
    · exact h.1 j i a (by omega) c d
  · rw [tp_succ s cu h0] at hv
    refine h.2.2 v fun i' a b => hv i' ?_ b
    rcases a with a | a <;> omega

/-- Is this number in that segment? -/
theorem SegI.inv {s q : Nat} {st cu : Int → Int} {sg : Int → Int} (h : SegI s st cu q sg) (hq : Cuts s cu q) {k v : Int} (h0 : 0 ≤ k) (hv : sg v = k + 1) : ∃ i, cu k ≤ i ∧ i < tp s cu k ∧ v = st i := by
  by_cases hc : ∃ i, tp s cu q ≤ i ∧ i < (s : Int) ∧ st i = v
  · obtain ⟨i, a, b, rfl⟩ := hc
    obtain ⟨j, j0, j1, j2, j3⟩ := hq.tile q (Int.le_refl _) a b
    have := h.1 j i j0 j1 j2 j3
    obtain rfl : j = k := by omega
    exact ⟨i, j2, j3, rfl⟩
  · have := h.2 v fun i a b e => hc ⟨i, a, b, e⟩
    omega

/-- The classes of the edges within the segment, of the nodes up to 'i'. -/
def WitE (f o cl : Int → Int) (al : Int) (sg : Int → Int) (k v e : Int) : Int → Prop := fun z => ∃ q, f v ≤ q ∧ q < e ∧ sg (o q) = k + 1 ∧ z = band (cl q) al
def WitS (f o cl : Int → Int) (al : Int) (sg st : Int → Int) (k lo i : Int) : Int → Prop :=
  fun z => ∃ j, lo ≤ j ∧ j < i ∧ WitE f o cl al sg k (st j) (f (st j + 1)) z
theorem wit_yes {f o cl : Int → Int} {al : Int} {sg : Int → Int} {k v e : Int} {S : Int → Prop} (h0 : f v ≤ e) (h : sg (o e) = k + 1) : ∀ y, (S y ∨ WitE f o cl al sg k v (e + 1) y) ↔ (S y ∨ WitE f o cl al sg k v e y) ∨ y = band (cl e) al := by
  intro y
  constructor
  · rintro (hs | ⟨q, a, b, c, d⟩)
    · exact .inl (.inl hs)
    · by_cases hq : q = e
      · subst hq; exact .inr d
      · exact .inl (.inr ⟨q, a, by omega, c, d⟩)
  · rintro ((hs | ⟨q, a, b, c, d⟩) | rfl)
    · exact .inl hs
    · exact .inr ⟨q, a, by omega, c, d⟩
    · exact .inr ⟨e, h0, by omega, h, rfl⟩
theorem wit_no {f o cl : Int → Int} {al : Int} {sg : Int → Int} {k v e : Int} {S : Int → Prop} (h : sg (o e) ≠ k + 1) : ∀ y, (S y ∨ WitE f o cl al sg k v e y) ↔ (S y ∨ WitE f o cl al sg k v (e + 1) y) := by
  intro y
  constructor
  · rintro (hs | ⟨q, a, b, c, d⟩)
    · exact .inl hs
    · exact .inr ⟨q, a, by omega, c, d⟩
  · rintro (hs | ⟨q, a, b, c, d⟩)
    · exact .inl hs
    · refine .inr ⟨q, a, ?_, c, d⟩
      have : q ≠ e := fun hq => h (by rw [← hq]; exact c)
      omega
theorem wit_next {f o cl : Int → Int} {al : Int} {sg st : Int → Int} {k lo i e x : Int} (h0 : lo ≤ i) (he : e = f (st i + 1)) (h : Lub x (fun q => WitS f o cl al sg st k lo i q ∨ WitE f o cl al sg k (st i) e q)) : Lub x (WitS f o cl al sg st k lo (i + 1)) := by
  subst he
  refine h.same fun q => ⟨?_, ?_⟩
  · rintro (⟨j, a, b, c⟩ | c)
    · exact ⟨j, a, by omega, c⟩
    · exact ⟨i, h0, by omega, c⟩
  · rintro ⟨j, a, b, c⟩
    by_cases hj : j = i
    · subst hj; exact .inr c
    · exact .inl ⟨j, a, by omega, c⟩
theorem wit_up {s q : Nat} {f o cl : Int → Int} {al x : Int} {sg st cu : Int → Int} {k i e : Int} (hs : SegI s st cu q sg) (hq : Cuts s cu q) (h : Lub x (SegS f o cl al st (cu k) (tp s cu k))) (h0 : 0 ≤ k) (hi0 : cu k ≤ i) (hi1 : i < tp s cu k) (he0 : f (st i) ≤ e) (he1 : e < f (st i + 1)) (hsg : sg (o e) = k + 1) :
    bandn (band (cl e) al) x = 0 := by
  obtain ⟨i', a, b, c⟩ := hs.inv hq h0 hsg
  exact h.up _ ⟨i, hi0, hi1, e, he0, he1, ⟨i', a, b, c⟩, rfl⟩
theorem wit_least {s q : Nat} {f o cl : Int → Int} {al x y : Int} {sg st cu : Int → Int} {k i : Int} (hs : SegI s st cu q sg) (h : Lub x (SegS f o cl al st (cu k) (tp s cu k))) (h0 : 0 ≤ k) (h1 : k < (q : Int)) (hi : i = tp s cu k) (hw : Lub y (WitS f o cl al sg st k (cu k) i)) :
    bandn x y = 0 := by
  subst hi
  refine h.least y ?_
  rintro z ⟨i, i0, i1, e, e0, e1, ⟨i', j0, j1, j2⟩, rfl⟩
  exact hw.up _ ⟨i, i0, i1, e, e0, e1, by rw [j2]; exact hs.1 k i' h0 h1 j0 j1, rfl⟩
theorem cls_sub {f o cl : Int → Int} {al x : Int} {st : Int → Int} {a b : Int} (h : Lub x (SegS f o cl al st a b)) : bandn x al = 0 := by
  refine h.least al ?_
  rintro z ⟨i, i0, i1, e, e0, e1, _, rfl⟩
  exact sub8_band _ _

theorem TInv.comp_eq {s n q : Nat} {f o cl : Int → Int} {al tx : Int} {st cu : Int → Int} {on0 : Int → Bool} {d : PS} {sg : Int → Int} (h : TInv s n f o cl al tx st cu on0 q d) (hs : SegI s st cu q sg) (hq : Cuts s cu q) (v : Int) : d.comp v = sg v := by
  by_cases hc : ∃ i, tp s cu q ≤ i ∧ i < (s : Int) ∧ st i = v
  · obtain ⟨i, a, b, rfl⟩ := hc
    obtain ⟨j, j0, j1, j2, j3⟩ := hq.tile q (Int.le_refl _) a b
    rw [h.comp1 j i j0 j1 j2 j3, hs.1 j i j0 j1 j2 j3]
  · rw [h.comp2 v fun i a b e => hc ⟨i, a, b, e⟩, hs.2 v fun i a b e => hc ⟨i, a, b, e⟩]
theorem TInv.on_eq {s n q : Nat} {f o cl : Int → Int} {al tx : Int} {st cu : Int → Int} {on0 g : Int → Bool} {d : PS} {sg : Int → Int} (h : TInv s n f o cl al tx st cu on0 q d) (hs : SegI s st cu q sg) (hq : Cuts s cu q) (h1 : OnI st s on0) (h2 : OnI st s g) (v : Int) :
    d.on v = true ↔ (g v = true ∧ sg v = 0) := by
  by_cases hc : ∃ i, tp s cu q ≤ i ∧ i < (s : Int) ∧ st i = v
  · obtain ⟨i, a, b, rfl⟩ := hc
    obtain ⟨j, j0, j1, j2, j3⟩ := hq.tile q (Int.le_refl _) a b
    have e1 := hs.1 j i j0 j1 j2 j3
    rw [h.on1 i a b]
    constructor
    · intro e; cases e
    · intro e; omega
  · have e1 := hs.2 v fun i a b e => hc ⟨i, a, b, e⟩
    rw [h.on2 v fun i a b e => hc ⟨i, a, b, e⟩, h1 v, h2 v, e1]
    simp

/-- How the partition starts. -/
def PS.start (s : Nat) (on0 : Int → Bool) (bB bE bX bT bZ bW : Nat) : PS where
  bB := bB
  sB := 1
  cB := 1
  bE := bE
  sE := 1
  cE := 1
  bX := bX
  sX := 1
  cX := 1
  bT := bT
  sT := 1
  cT := 1
  bZ := bZ
  sZ := 1
  cZ := 1
  bW := bW
  sW := 1
  cW := 1
  bD := 0
  sD := 0
  cD := 0
  r := s
  m := 0
  aB := some ⟨bB, 0, none⟩
  aE := some ⟨bE, 0, none⟩
  aX := some ⟨bX, 0, none⟩
  aT := some ⟨bT, 0, none⟩
  aZ := some ⟨bZ, 0, none⟩
  aW := some ⟨bW, 0, none⟩
  aD := none
  comp := fun _ => 0
  beg := fun _ => 0
  en := fun _ => s
  cls := fun _ => 0
  cnt := fun _ => 0
  siz := fun _ => 0
  spt := fun _ => 0
  fo := fun _ => 0
  on := on0
theorem TInv.start {s n : Nat} {f o cl : Int → Int} {al tx : Int} {st cu : Int → Int} {on0 : Int → Bool} {bB bE bX bT bZ bW : Nat} : TInv s n f o cl al tx st cu on0 0 (PS.start s on0 bB bE bX bT bZ bW) where
  r := by rw [show ((0 : Nat) : Int) = 0 from rfl, tp_zero]; rfl
  m := by show 0 + s = s; omega
  comp1 := fun j i h0 h1 => by omega
  comp2 := fun v _ => rfl
  comp3 := fun v => ⟨Int.le_refl _, Int.le_refl _⟩
  on1 := fun i h0 h1 => by rw [show ((0 : Nat) : Int) = 0 from rfl, tp_zero] at h0; omega
  on2 := fun v _ => rfl
  fo := fun i h0 h1 => by rw [show ((0 : Nat) : Int) = 0 from rfl, tp_zero] at h0; omega
  beg0 := rfl
  beg1 := fun j h0 h1 => by omega
  en0 := rfl
  en1 := fun j h0 h1 => by omega
  cls0 := rfl
  cls1 := fun j h0 h1 => by omega
  cnt0 := rfl
  cnt1 := fun j h0 h1 => by omega
  siz0 := rfl
  siz1 := fun j h0 h1 => by omega
  spt := fun j h0 h1 => rfl
  gB := .inr ⟨Nat.one_pos, 1, rfl, rfl, Nat.le_refl _⟩
  gE := .inr ⟨Nat.one_pos, 1, rfl, rfl, Nat.le_refl _⟩
  gX := .inr ⟨Nat.one_pos, 1, rfl, rfl, Nat.le_refl _⟩
  gT := .inr ⟨Nat.one_pos, 1, rfl, rfl, Nat.le_refl _⟩
  gZ := .inr ⟨Nat.one_pos, 1, rfl, rfl, Nat.le_refl _⟩
  gW := .inr ⟨Nat.one_pos, 1, rfl, rfl, Nat.le_refl _⟩
  gD := .inl ⟨rfl, rfl, rfl⟩

theorem isTx_b (tx : Int) (st : Int → Int) (i : Int) : 0 ≤ isTx tx st i ∧ isTx tx st i ≤ 1 := by unfold isTx; split <;> omega
theorem szOf_b {nf no n : Nat} {f o st : Int → Int} (hadj : AdjOK nf no no f o) (hnn : (n : Int) = (nf : Int) - 1) (hno : (no : Int) ≤ 1048576) {i : Int} (h0 : 0 ≤ st i) (h1 : st i < (n : Int)) : 1 ≤ szOf f st i ∧ szOf f st i ≤ 1048577 := by
  have q1 := adj_bounds hadj h0 (by omega)
  have q2 := adj_bounds hadj (show (0 : Int) ≤ st i + 1 by omega) (by omega)
  have q3 := hadj.2.2.1 (st i) h0 (by omega)
  unfold szOf
  omega
end Go.Proofs.Qxb6001307a
