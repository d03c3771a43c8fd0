/-
  OWN WORK. The plain law of 'FnTakeScriptTilesStack': what a script of takes leaves.
-/
import Derived.Test.Qxb6001307aTake
namespace Go.Proofs.Qxb6001307a
set_option linter.unusedSimpArgs false
set_option linter.unusedVariables false

/-- g lo + .. + g (hi - 1) -/
def Sg (g : Int → Int) (lo hi : Int) : Int := sumF (fun x => g (lo + x)) (hi - lo).toNat
theorem Sg_self (g : Int → Int) (a : Int) : Sg g a a = 0 := by simp [Sg, sumF]
theorem Sg_succ (g : Int → Int) {lo hi : Int} (h : lo ≤ hi) : Sg g lo (hi + 1) = Sg g lo hi + g hi := by
  unfold Sg
  rw [show (hi + 1 - lo).toNat = (hi - lo).toNat + 1 from by omega, sumF, show lo + (((hi - lo).toNat : Nat) : Int) = hi from by omega]
theorem Sg_add (g : Int → Int) {lo mid hi : Int} (h1 : lo ≤ mid) (h2 : mid ≤ hi) : Sg g lo mid + Sg g mid hi = Sg g lo hi := by
  obtain ⟨k, hk⟩ : ∃ k : Nat, hi = mid + k := ⟨(hi - mid).toNat, by omega⟩
  subst hk
  clear h2
  induction k with
  | zero => simp [Sg_self]
  | succ k ih =>
    rw [show mid + ((k + 1 : Nat) : Int) = (mid + k) + 1 from by omega, Sg_succ g (by omega), Sg_succ g (by omega)]
    omega
theorem Sg_bound {g : Int → Int} {lo hi a b : Int} (h : lo ≤ hi) (hb : ∀ i, lo ≤ i → i < hi → a ≤ g i ∧ g i ≤ b) : (hi - lo) * a ≤ Sg g lo hi ∧ Sg g lo hi ≤ (hi - lo) * b := by
  have := sumF_bound (h := fun x => g (lo + x)) (lo := a) (hi := b) (n := (hi - lo).toNat) (fun j h0 h1 => hb _ (by omega) (by omega))
  unfold Sg
  rw [show (((hi - lo).toNat : Nat) : Int) = hi - lo from by omega] at this
  exact this
theorem Sg_rev (g : Int → Int) (hi : Int) : ∀ n : Nat, sumF (fun x => g (hi - 1 - x)) n = Sg g (hi - n) hi := by
  intro n
  induction n with
  | zero => simp [Sg_self, sumF]
  | succ n ih =>
    have h1 : Sg g (hi - ((n + 1 : Nat) : Int)) (hi - n) = g (hi - 1 - n) := by
      rw [show hi - (n : Int) = (hi - ((n + 1 : Nat) : Int)) + 1 from by omega, Sg_succ g (by omega), Sg_self, show hi - ((n + 1 : Nat) : Int) = hi - 1 - n from by omega]
      omega
    have h2 := Sg_add g (lo := hi - ((n + 1 : Nat) : Int)) (mid := hi - n) (hi := hi) (by omega) (by omega)
    simp only [sumF]
    rw [ih, ← h2, h1]
    omega

/-- Where the stack stands before take number 'j'. -/
def tp (s : Nat) (cu : Int → Int) (j : Int) : Int := if j ≤ 0 then s else cu (j - 1)
theorem tp_zero (s : Nat) (cu : Int → Int) : tp s cu 0 = s := by simp [tp]
theorem tp_succ (s : Nat) (cu : Int → Int) {j : Int} (h : 0 ≤ j) : tp s cu (j + 1) = cu j := by
  unfold tp
  rw [if_neg (by omega)]
  congr 1
  omega
/-- The cuts go down. -/
def Cuts (s : Nat) (cu : Int → Int) (q : Int) : Prop := ∀ j, 0 ≤ j → j < q → 0 ≤ cu j ∧ cu j < tp s cu j
theorem Cuts.le {s : Nat} {cu : Int → Int} {q : Int} (h : Cuts s cu q) : ∀ k : Nat, (k : Int) ≤ q → 0 ≤ tp s cu k ∧ tp s cu k ≤ s
  | 0, _ => by rw [show ((0 : Nat) : Int) = 0 from rfl, tp_zero]; omega
  | k + 1, hk => by
    have h1 := Cuts.le h k (by omega)
    have h2 := h (k : Int) (by omega) (by omega)
    rw [show ((k + 1 : Nat) : Int) = (k : Int) + 1 from by omega, tp_succ s cu (by omega)]
    omega

/-- What the partition holds besides what stays. -/
structure PS where
  (bB sB cB bE sE cE bX sX cX bT sT cT bZ sZ cZ bW sW cW bD sD cD r m : Nat) (aB aE aX aT aZ aW aD : Option Addr) (comp beg en cls cnt siz spt fo : Int → Int) (on : Int → Bool)

/-- The classes of the edges within a piece of the stack. -/
def SegS (f o cl : Int → Int) (al : Int) (st : Int → Int) (a b : Int) : Int → Prop :=
  fun z => ∃ i, a ≤ i ∧ i < b ∧ ∃ e, f (st i) ≤ e ∧ e < f (st i + 1) ∧ (∃ i', a ≤ i' ∧ i' < b ∧ o e = st i') ∧ z = band (cl e) al
def isTx (tx : Int) (st : Int → Int) : Int → Int := fun i => if st i < tx then 1 else 0
def szOf (f st : Int → Int) : Int → Int := fun i => 1 + (f (st i + 1) - f (st i))

/-- What holds after 'J' takes. -/
structure TInv (s n : Nat) (f o cl : Int → Int) (al tx : Int) (st cu : Int → Int) (on0 : Int → Bool) (J : Nat) (d : PS) : Prop where
  r : (d.r : Int) = tp s cu J
  m : d.m + d.r = s
  comp1 : ∀ j i, 0 ≤ j → j < (J : Int) → cu j ≤ i → i < tp s cu j → d.comp (st i) = j + 1
  comp2 : ∀ v, (∀ i, tp s cu J ≤ i → i < (s : Int) → st i ≠ v) → d.comp v = 0
  comp3 : ∀ v, 0 ≤ d.comp v ∧ d.comp v ≤ J
  on1 : ∀ i, tp s cu J ≤ i → i < (s : Int) → d.on (st i) = false
  on2 : ∀ v, (∀ i, tp s cu J ≤ i → i < (s : Int) → st i ≠ v) → d.on v = on0 v
  fo : ∀ i, tp s cu J ≤ i → i < (s : Int) → d.fo ((s : Int) - 1 - i) = st i
  beg0 : d.beg 0 = 0
  beg1 : ∀ j, 0 ≤ j → j < (J : Int) → d.beg (j + 1) = s - tp s cu j
  en0 : d.en 0 = s
  en1 : ∀ j, 0 ≤ j → j < (J : Int) → d.en (j + 1) = s - cu j
  cls0 : d.cls 0 = 0
  cls1 : ∀ j, 0 ≤ j → j < (J : Int) → Lub (d.cls (j + 1)) (SegS f o cl al st (cu j) (tp s cu j))
  cnt0 : d.cnt 0 = 0
  cnt1 : ∀ j, 0 ≤ j → j < (J : Int) → d.cnt (j + 1) = Sg (isTx tx st) (cu j) (tp s cu j)
  siz0 : d.siz 0 = 0
  siz1 : ∀ j, 0 ≤ j → j < (J : Int) → d.siz (j + 1) = Sg (szOf f st) (cu j) (tp s cu j)
  spt : ∀ j, 0 ≤ j → j ≤ (J : Int) → d.spt j = 0
  gB : Gs ⟨d.bB, d.sB, ((J + 1 : Nat) : Int), ints .i32 d.beg⟩ 1 (J + 1) (.slice d.aB (J + 1) d.cB)
  gE : Gs ⟨d.bE, d.sE, ((J + 1 : Nat) : Int), ints .i32 d.en⟩ 1 (J + 1) (.slice d.aE (J + 1) d.cE)
  gX : Gs ⟨d.bX, d.sX, ((J + 1 : Nat) : Int), ints .u8 d.cls⟩ 1 (J + 1) (.slice d.aX (J + 1) d.cX)
  gT : Gs ⟨d.bT, d.sT, ((J + 1 : Nat) : Int), ints .i32 d.cnt⟩ 1 (J + 1) (.slice d.aT (J + 1) d.cT)
  gZ : Gs ⟨d.bZ, d.sZ, ((J + 1 : Nat) : Int), ints .i64 d.siz⟩ 1 (J + 1) (.slice d.aZ (J + 1) d.cZ)
  gW : Gs ⟨d.bW, d.sW, ((J + 1 : Nat) : Int), ints .i64 d.spt⟩ 1 (J + 1) (.slice d.aW (J + 1) d.cW)
  gD : Gs ⟨d.bD, d.sD, d.m, ints .i32 d.fo⟩ 1 d.m (.slice d.aD d.m d.cD)

/-- The state behind a take. -/
def PS.next (d : PS) (J t : Nat) (y : TakeOut) : PS where
  bB := y.bB
  sB := y.sB
  cB := y.cB
  bE := y.bE
  sE := y.sE
  cE := y.cE
  bX := y.bX
  sX := y.sX
  cX := y.cX
  bT := y.bT
  sT := y.sT
  cT := y.cT
  bZ := y.bZ
  sZ := y.sZ
  cZ := y.cZ
  bW := y.bW
  sW := y.sW
  cW := y.cW
  bD := y.bD
  sD := y.sD
  cD := y.cD
  r := t
  m := d.m + (d.r - t)
  aB := y.aB
  aE := y.aE
  aX := y.aX
  aT := y.aT
  aZ := y.aZ
  aW := y.aW
  aD := some ⟨y.bD, 0, none⟩
  comp := y.comp
  beg := upd d.beg ((J + 1 : Nat) : Int) (d.beg 0 + d.m)
  en := upd d.en ((J + 1 : Nat) : Int) (d.beg 0 + ((d.m + (d.r - t) : Nat) : Int))
  cls := upd d.cls ((J + 1 : Nat) : Int) y.x
  cnt := upd d.cnt ((J + 1 : Nat) : Int) y.ct
  siz := upd d.siz ((J + 1 : Nat) : Int) y.z
  spt := upd d.spt ((J + 1 : Nat) : Int) 0
  fo := y.fo
  on := y.on

theorem TInv.next {s n q : Nat} {f o cl : Int → Int} {al tx : Int} {st cu : Int → Int} {on0 : Int → Bool} {J t : Nat} {d : PS} {y : TakeOut} (h : TInv s n f o cl al tx st cu on0 J d) (hq : Cuts s cu q) (hJ : J < q) (ht : (t : Int) = cu J)
    (hdis : ∀ i j, 0 ≤ i → i < j → j < (s : Int) → st i ≠ st j)
    (hy : TakeRel (J + 1) d.m d.r t n f o cl al tx 0 st d.comp d.on d.beg d.en d.cls d.cnt d.siz d.spt d.fo y) : TInv s n f o cl al tx st cu on0 (J + 1) (d.next J t y) := by
  have hcJ := hq (J : Int) (by omega) (by omega)
  have hle := hq.le J (by omega)
  have hr := h.r
  have hm := h.m
  have htp : tp s cu ((J + 1 : Nat) : Int) = cu J := by rw [show ((J + 1 : Nat) : Int) = (J : Int) + 1 from by omega, tp_succ s cu (by omega)]
  have hrt : (d.m + (d.r - t) - d.m : Nat) = d.r - t := by omega
  -- the nodes taken now, and the others
  have hold : ∀ v, (∀ i, (t : Int) ≤ i → i < (d.r : Int) → st i ≠ v) → y.comp v = d.comp v := hy.pop.c2
  have hnew : ∀ i, (t : Int) ≤ i → i < (d.r : Int) → y.comp (st i) = ((J + 1 : Nat) : Int) := hy.pop.c1
  have hsplit : ∀ v, (∃ i, (t : Int) ≤ i ∧ i < (d.r : Int) ∧ st i = v) ∨ (∀ i, (t : Int) ≤ i → i < (d.r : Int) → st i ≠ v) := by
    intro v
    by_cases hc : ∃ i, (t : Int) ≤ i ∧ i < (d.r : Int) ∧ st i = v
    · exact .inl hc
    · exact .inr fun i h0 h1 he => hc ⟨i, h0, h1, he⟩
  have hfoi : ∀ i, (t : Int) ≤ i → i < (d.r : Int) → y.fo ((d.m : Int) + ((d.r : Int) - 1 - i)) = st i := hy.fo2
  have hupd : ∀ (g : Int → Int) (z : Int) (j : Int), j < ((J + 1 : Nat) : Int) → upd g ((J + 1 : Nat) : Int) z j = g j := fun g z j hj => upd_other _ _ _ (by omega)
  refine ⟨?_, ?_, ?_, ?_, ?_, ?_, ?_, ?_, ?_, ?_, ?_, ?_, ?_, ?_, ?_, ?_, ?_, ?_, ?_, hy.gB, hy.gE, hy.gX, hy.gT, hy.gZ, hy.gW, hy.gD⟩
  · show (t : Int) = _; rw [htp, ht]
  · show d.m + (d.r - t) + t = s; omega
  · intro j i h0 h1 h2 h3
    show y.comp (st i) = j + 1
    by_cases hj : j = J
    · subst hj
      rw [hnew i (by omega) (by omega)]; omega
    · have hjJ : j < (J : Int) := by omega
      have hge : tp s cu J ≤ i := by
        have hdec : ∀ k : Nat, j + 1 + k ≤ (J : Int) → tp s cu (j + 1 + k) ≤ cu j := by
          intro k
          induction k with
          | zero => intro _; rw [show j + 1 + ((0 : Nat) : Int) = j + 1 from by omega, tp_succ s cu h0]; omega
          | succ k ih =>
            intro hk
            have h4 := ih (by omega)
            have h5 := hq (j + 1 + k) (by omega) (by omega)
            rw [show j + 1 + ((k + 1 : Nat) : Int) = (j + 1 + k) + 1 from by omega, tp_succ s cu (by omega)]
            omega
        have h6 := hdec ((J : Int) - (j + 1)).toNat (by omega)
        rw [show j + 1 + ((((J : Int) - (j + 1)).toNat : Nat) : Int) = (J : Int) from by omega] at h6
        omega
      have his : i < (s : Int) := by
        have := hq.le j.toNat (by omega)
        rw [show ((j.toNat : Nat) : Int) = j from by omega] at this
        omega
      rw [hold _ (fun i' a b e => hdis i' i (by omega) (by omega) his e)]
      exact h.comp1 j i h0 hjJ h2 h3
  · intro v hv
    show y.comp v = 0
    rw [htp] at hv
    rw [hold v fun i a b => hv i (by omega) (by omega)]
    exact h.comp2 v fun i a b => hv i (by omega) b
  · intro v
    show 0 ≤ y.comp v ∧ y.comp v ≤ ((J + 1 : Nat) : Int)
    rcases hsplit v with ⟨i, h0, h1, rfl⟩ | hv
    · rw [hnew i h0 h1]; omega
    · rw [hold v hv]; have := h.comp3 v; omega
  · intro i h0 h1
    rw [htp] at h0
    show y.on (st i) = false
    by_cases hi : i < (d.r : Int)
    · exact hy.pop.o1 i (by omega) hi
    · rw [hy.pop.o2 (st i) fun i' a b e => hdis i' i (by omega) (by omega) h1 e]
      exact h.on1 i (by omega) h1
  · intro v hv
    rw [htp] at hv
    show y.on v = on0 v
    rw [hy.pop.o2 v fun i a b => hv i (by omega) (by omega)]
    exact h.on2 v fun i a b => hv i (by omega) b
  · intro i h0 h1
    rw [htp] at h0
    show y.fo ((s : Int) - 1 - i) = st i
    by_cases hi : i < (d.r : Int)
    · rw [← hfoi i (by omega) hi]; congr 1; omega
    · rw [hy.fo1 _ (by omega) (by omega)]
      exact h.fo i (by omega) h1
  · show upd d.beg ((J + 1 : Nat) : Int) (d.beg 0 + d.m) 0 = 0
    rw [hupd _ _ _ (by omega)]; exact h.beg0
  · intro j h0 h1
    show upd d.beg _ _ (j + 1) = _
    by_cases hj : j = J
    · subst hj
      rw [show (J : Int) + 1 = ((J + 1 : Nat) : Int) from by omega, upd_same, h.beg0]; omega
    · rw [hupd _ _ _ (by omega)]; exact h.beg1 j h0 (by omega)
  · show upd d.en ((J + 1 : Nat) : Int) (d.beg 0 + ((d.m + (d.r - t) : Nat) : Int)) 0 = s
    rw [hupd _ _ _ (by omega)]; exact h.en0
  · intro j h0 h1
    show upd d.en _ _ (j + 1) = _
    by_cases hj : j = J
    · subst hj
      rw [show (J : Int) + 1 = ((J + 1 : Nat) : Int) from by omega, upd_same, h.beg0]; omega
    · rw [hupd _ _ _ (by omega)]; exact h.en1 j h0 (by omega)
  · show upd d.cls ((J + 1 : Nat) : Int) y.x 0 = 0
    rw [hupd _ _ _ (by omega)]; exact h.cls0
  · intro j h0 h1
    show Lub (upd d.cls _ _ (j + 1)) _
    by_cases hj : j = J
    · subst hj
      rw [show (J : Int) + 1 = ((J + 1 : Nat) : Int) from by omega, upd_same]
      refine hy.lub.same fun z => ⟨?_, ?_⟩
      · rintro ⟨x, x0, x1, e, e0, e1, e2, e3⟩
        have hx := hfoi ((d.r : Int) - 1 - x) (by omega) (by omega)
        rw [show (d.m : Int) + ((d.r : Int) - 1 - ((d.r : Int) - 1 - x)) = (d.m : Int) + x from by omega] at hx
        rw [hx] at e0 e1
        refine ⟨(d.r : Int) - 1 - x, by omega, by omega, e, e0, e1, ?_, e3⟩
        rcases hsplit (o e) with ⟨i, i0, i1, i2⟩ | hv
        · exact ⟨i, by omega, by omega, i2.symm⟩
        · rw [hold _ hv] at e2
          have := h.comp3 (o e)
          omega
      · rintro ⟨i, i0, i1, e, e0, e1, ⟨i', j0, j1, j2⟩, e3⟩
        refine ⟨(d.r : Int) - 1 - i, by omega, by omega, e, ?_, ?_, ?_, e3⟩
        · rw [hfoi i (by omega) (by omega)]; exact e0
        · rw [hfoi i (by omega) (by omega)]; exact e1
        · rw [j2]; exact hnew i' (by omega) (by omega)
    · rw [hupd _ _ _ (by omega)]; exact h.cls1 j h0 (by omega)
  · show upd d.cnt ((J + 1 : Nat) : Int) y.ct 0 = 0
    rw [hupd _ _ _ (by omega)]; exact h.cnt0
  · intro j h0 h1
    show upd d.cnt _ _ (j + 1) = _
    by_cases hj : j = J
    · subst hj
      rw [show (J : Int) + 1 = ((J + 1 : Nat) : Int) from by omega, upd_same, hy.ct, hrt]
      rw [sumF_congr (g := fun x => isTx tx st ((d.r : Int) - 1 - x)) (fun x x0 x1 => by
        have hx := hfoi ((d.r : Int) - 1 - x) (by omega) (by omega)
        rw [show (d.m : Int) + ((d.r : Int) - 1 - ((d.r : Int) - 1 - x)) = (d.m : Int) + x from by omega] at hx
        simp only [isTx, hx]), Sg_rev]
      congr 1 <;> omega
    · rw [hupd _ _ _ (by omega)]; exact h.cnt1 j h0 (by omega)
  · show upd d.siz ((J + 1 : Nat) : Int) y.z 0 = 0
    rw [hupd _ _ _ (by omega)]; exact h.siz0
  · intro j h0 h1
    show upd d.siz _ _ (j + 1) = _
    by_cases hj : j = J
    · subst hj
      rw [show (J : Int) + 1 = ((J + 1 : Nat) : Int) from by omega, upd_same, hy.z, hrt]
      rw [sumF_congr (g := fun x => szOf f st ((d.r : Int) - 1 - x)) (fun x x0 x1 => by
        have hx := hfoi ((d.r : Int) - 1 - x) (by omega) (by omega)
        rw [show (d.m : Int) + ((d.r : Int) - 1 - ((d.r : Int) - 1 - x)) = (d.m : Int) + x from by omega] at hx
        simp only [szOf, hx]), Sg_rev]
      congr 1 <;> omega
    · rw [hupd _ _ _ (by omega)]; exact h.siz1 j h0 (by omega)
  · intro j h0 h1
    show upd d.spt _ _ j = 0
    by_cases hj : j = ((J + 1 : Nat) : Int)
    · subst hj; exact upd_same _ _ _
    · rw [hupd _ _ _ (by omega)]; exact h.spt j h0 (by omega)
end Go.Proofs.Qxb6001307a
