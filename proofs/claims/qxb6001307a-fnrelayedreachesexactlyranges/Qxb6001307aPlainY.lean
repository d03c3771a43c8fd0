/-
  OWN WORK. The state of a split, step by step.
-/
import Derived.Test.Qxb6001307aVisit
namespace Go.Proofs.Qxb6001307a
set_option linter.unusedSimpArgs false
set_option linter.unusedVariables false

structure SSt where
  (bS sS cS bK sK cK bB sB cB bE sE cE bX sX cX bT sT cT bZ sZ cZ bW sW cW bD sD cD r d K m : Nat) (aB aE aX aT aZ aW aD : Option Addr) (seen : Int) (st fp idx low pr cc comp fo beg en cls cnt siz spt : Int → Int) (on : Int → Bool)

structure SOK (n : Nat) (f o cl : Int → Int) (al : Int) (ou : Int → Bool) (x : SSt) (aS aK : Option Addr) : Prop where
  ts : Ts n f o cl al (AL n ou) x.r x.d x.m x.seen x.st x.fp x.idx x.low x.pr x.cc x.comp x.on
  tk : Tk n f o cl al (AL n ou) x.K x.m x.comp x.fo x.beg x.en
  gB : Gs ⟨x.bB, x.sB, x.K, ints .i32 x.beg⟩ 1 x.K (.slice x.aB x.K x.cB)
  gE : Gs ⟨x.bE, x.sE, x.K, ints .i32 x.en⟩ 1 x.K (.slice x.aE x.K x.cE)
  gX : Gs ⟨x.bX, x.sX, x.K, ints .u8 x.cls⟩ 1 x.K (.slice x.aX x.K x.cX)
  gT : Gs ⟨x.bT, x.sT, x.K, ints .i32 x.cnt⟩ 1 x.K (.slice x.aT x.K x.cT)
  gZ : Gs ⟨x.bZ, x.sZ, x.K, ints .i64 x.siz⟩ 1 x.K (.slice x.aZ x.K x.cZ)
  gW : Gs ⟨x.bW, x.sW, x.K, ints .i64 x.spt⟩ 1 x.K (.slice x.aW x.K x.cW)
  gD : Gs ⟨x.bD, x.sD, x.m, ints .i32 x.fo⟩ 1 x.m (.slice x.aD x.m x.cD)
  gS : Gs ⟨x.bS, x.sS, ((x.r : Nat) : Int), ints .i32 x.st⟩ 1 x.r (.slice aS x.r x.cS)
  gK : Gs ⟨x.bK, x.sK, 2 * ((x.d : Nat) : Int), ints .i32 x.cc⟩ 2 x.d (.slice aK x.d x.cK)

theorem Gs.shrink {b s len len' sz cap : Nat} {n n' : Int} {c c' : Int → Value} {a : Option Addr} (h : Gs ⟨b, s, n, c⟩ sz len (.slice a len cap)) (h0 : 0 < len) (h1 : len' ≤ len) : Gs ⟨b, s, n', c'⟩ sz len' (.slice a len' cap) := by
  rcases h with ⟨_, e, _⟩ | ⟨hp, cap', e, hs, hl⟩
  · omega
  · simp only [Value.slice.injEq] at e
    obtain ⟨rfl, _, rfl⟩ := e
    exact .inr ⟨hp, cap, rfl, hs, by omega⟩

def SSt.skip (x : SSt) (u : Int) : SSt := { x with pr := upd x.pr u (x.pr u + 1), cc := upd x.cc (2 * ((x.d : Int) - 1) + 1) (x.pr u + 1) }
def SSt.back (x : SSt) (u z : Int) : SSt := { x with low := upd x.low u z, pr := upd x.pr u (x.pr u + 1), cc := upd x.cc (2 * ((x.d : Int) - 1) + 1) (x.pr u + 1) }
def SSt.visit (x : SSt) (f pr1 cc1 : Int → Int) (v : Int) (y : VisOut) : SSt :=
  { x with bS := y.bS, sS := y.sS, cS := y.cS, bK := y.bK, sK := y.sK, cK := y.cK, r := x.r + 1, d := x.d + 1, seen := x.seen + 1, st := upd x.st (x.r : Int) v, fp := upd x.fp (x.d : Int) x.r, idx := upd x.idx v (x.seen + 1), low := upd x.low v (x.seen + 1), pr := pr1, cc := upd (upd cc1 (2 * (x.d : Int)) v) (2 * (x.d : Int) + 1) (f v), on := upd x.on v true }
def SSt.pop (x : SSt) (low1 : Int → Int) : SSt := { x with d := ((x.d : Int) - 1).toNat, low := low1 }
def SSt.taken (x : SSt) (low1 : Int → Int) (t : Nat) (y : TakeOut) : SSt :=
  { x with d := ((x.d : Int) - 1).toNat, low := low1, r := t, m := x.m + (x.r - t), K := x.K + 1, bB := y.bB, sB := y.sB, cB := y.cB, bE := y.bE, sE := y.sE, cE := y.cE, bX := y.bX, sX := y.sX, cX := y.cX, bT := y.bT, sT := y.sT, cT := y.cT, bZ := y.bZ, sZ := y.sZ, cZ := y.cZ, bW := y.bW, sW := y.sW, cW := y.cW, bD := y.bD, sD := y.sD, cD := y.cD, aB := y.aB, aE := y.aE, aX := y.aX, aT := y.aT, aZ := y.aZ, aW := y.aW, aD := some ⟨y.bD, 0, none⟩, comp := y.comp, on := y.on, fo := y.fo, beg := upd x.beg (x.K : Int) (x.beg 0 + x.m), en := upd x.en (x.K : Int) (x.beg 0 + ((x.m + (x.r - t) : Nat) : Int)), cls := upd x.cls (x.K : Int) y.x, cnt := upd x.cnt (x.K : Int) y.ct, siz := upd x.siz (x.K : Int) y.z, spt := upd x.spt (x.K : Int) 0 }

section
variable {n : Nat} {f o cl : Int → Int} {al : Int} {ou : Int → Bool} {x : SSt} {aS aK : Option Addr}
theorem ALn {v : Int} (h : AL n ou v) : 0 ≤ v ∧ v < (n : Int) := ⟨h.1, h.2.1⟩

theorem SOK.skip (h : SOK n f o cl al ou x aS aK) (hd : 0 < x.d) {u : Int} (hu : u = x.st (x.fp ((x.d : Int) - 1))) (he : x.pr u < f (u + 1)) (hno : band (cl (x.pr u)) al = 0 ∨ x.comp (o (x.pr u)) ≠ 0) : SOK n f o cl al ou (x.skip u) aS aK := by
  have ht := h.ts.read (fun v hv => ALn hv) hd hu he (Int.le_refl _) (.inl rfl) (fun hb ha => by
    have hc := hno.resolve_left hb
    have h1 : 1 ≤ x.comp (o (x.pr u)) := by have := h.tk.cA _ ha; omega
    refine ⟨h.ts.tkv _ h1, fun i' a b e => ?_⟩
    have := (h.ts.A1 i' a b).2.1
    rw [e] at hc
    omega)
  rw [upd_self] at ht
  exact ⟨ht, h.tk, h.gB, h.gE, h.gX, h.gT, h.gZ, h.gW, h.gD, h.gS, h.gK⟩
theorem SOK.back (h : SOK n f o cl al ou x aS aK) (hd : 0 < x.d) {u : Int} (hu : u = x.st (x.fp ((x.d : Int) - 1))) (he : x.pr u < f (u + 1)) (hb : band (cl (x.pr u)) al ≠ 0) (hc : x.comp (o (x.pr u)) = 0) (hA : AL n ou (o (x.pr u))) (hi : x.idx (o (x.pr u)) ≠ 0) :
    SOK n f o cl al ou (x.back u (if x.idx (o (x.pr u)) < x.low u then x.idx (o (x.pr u)) else x.low u)) aS aK := by
  have hfb := h.ts.fpb ((x.d : Int) - 1) (by omega) (by omega)
  have hA1 := h.ts.A1 _ hfb.1 hfb.2.1
  have hle := h.ts.lowle hfb.1 hfb.2.1
  rw [← hu] at hA1 hle
  obtain ⟨i', a, b, c⟩ := h.ts.vis _ hA hc hi
  have hedge : Ed f o cl al (AL n ou) u (x.st i') := ⟨x.pr u, (h.ts.prb u hA1.1.1 hA1.1.2.1).1, he, hb, c.symm, hA1.1, by rw [c]; exact hA⟩
  have ht := h.ts.read (u := u) (z := if x.idx (o (x.pr u)) < x.low u then x.idx (o (x.pr u)) else x.low u) (fun v hv => ALn hv) hd hu he (by split <;> omega) (by
      by_cases hlt : x.idx (o (x.pr u)) < x.low u
      · rw [if_pos hlt]
        right
        refine ⟨i', a, ?_, by rw [c], .one hedge⟩
        rcases Int.lt_or_le (x.fp ((x.d : Int) - 1)) i' with hh | hh
        · have := h.ts.inc _ i' hfb.1 hh b
          rw [← hu, c] at this
          omega
        · exact hh
      · rw [if_neg hlt]; exact .inl rfl) (fun _ _ => ⟨hi, fun i2 a2 b2 e2 => by rw [← e2]; split <;> omega⟩)
  exact ⟨ht, h.tk, h.gB, h.gE, h.gX, h.gT, h.gZ, h.gW, h.gD, h.gS, h.gK⟩
theorem SOK.visit (h : SOK n f o cl al ou x aS aK) (hfm : ∀ v, 0 ≤ v → v < (n : Int) → f v ≤ f (v + 1)) {v : Int} (hv : AL n ou v) (hc : x.comp v = 0) (hi : x.idx v = 0) (pr1 cc1 : Int → Int) {y : VisOut}
    (hy : Gs ⟨y.bS, y.sS, ((x.r + 1 : Nat) : Int), ints .i32 (upd x.st (x.r : Int) v)⟩ 1 (x.r + 1) (.slice y.aS (x.r + 1) y.cS) ∧ Gs ⟨y.bK, y.sK, 2 * ((x.d + 1 : Nat) : Int), ints .i32 (upd (upd cc1 (2 * (x.d : Int)) v) (2 * (x.d : Int) + 1) (f v))⟩ 2 (x.d + 1) (.slice y.aK (x.d + 1) y.cK))
    (hp : (x.d = 0 ∧ pr1 = x.pr ∧ cc1 = x.cc) ∨ (0 < x.d ∧ pr1 = upd x.pr (x.st (x.fp ((x.d : Int) - 1))) (x.pr (x.st (x.fp ((x.d : Int) - 1))) + 1) ∧ cc1 = upd x.cc (2 * ((x.d : Int) - 1) + 1) (x.pr (x.st (x.fp ((x.d : Int) - 1))) + 1) ∧ x.pr (x.st (x.fp ((x.d : Int) - 1))) < f (x.st (x.fp ((x.d : Int) - 1)) + 1) ∧ band (cl (x.pr (x.st (x.fp ((x.d : Int) - 1))))) al ≠ 0 ∧ o (x.pr (x.st (x.fp ((x.d : Int) - 1)))) = v)) :
    SOK n f o cl al ou (x.visit f pr1 cc1 v y) y.aS y.aK :=
  ⟨h.ts.visit (fun v hv => ALn hv) hfm hv hc hi pr1 cc1 hp, h.tk, h.gB, h.gE, h.gX, h.gT, h.gZ, h.gW, h.gD, hy.1, hy.2⟩
theorem SOK.pop (h : SOK n f o cl al ou x aS aK) (hd : 0 < x.d) {u : Int} (hu : u = x.st (x.fp ((x.d : Int) - 1))) (he : ¬ x.pr u < f (u + 1)) (hne : x.low u ≠ x.idx u) :
    1 < x.d ∧ SOK n f o cl al ou (x.pop (upd x.low (x.st (x.fp ((x.d : Int) - 2))) (if x.low u < x.low (x.st (x.fp ((x.d : Int) - 2))) then x.low u else x.low (x.st (x.fp ((x.d : Int) - 2)))))) aS aK := by
  have hfb := h.ts.fpb ((x.d : Int) - 1) (by omega) (by omega)
  have hA1 := h.ts.A1 _ hfb.1 hfb.2.1
  rw [← hu] at hA1
  have hp := h.ts.prb u hA1.1.1 hA1.1.2.1
  obtain ⟨h1, h2⟩ := h.ts.pop (fun v hv => ALn hv) hd hu (by omega) hne
  have e : ((x.d : Int) - 1).toNat = x.d - 1 := by omega
  refine ⟨h1, ⟨?_, h.tk, h.gB, h.gE, h.gX, h.gT, h.gZ, h.gW, h.gD, h.gS, ?_⟩⟩
  · show Ts _ _ _ _ _ _ _ ((x.d : Int) - 1).toNat _ _ _ _ _ _ _ _ _ _
    rw [e]; exact h2
  · show Gs ⟨x.bK, x.sK, 2 * ((((x.d : Int) - 1).toNat : Nat) : Int), ints .i32 x.cc⟩ 2 ((x.d : Int) - 1).toNat (.slice aK ((x.d : Int) - 1).toNat x.cK)
    exact h.gK.shrink hd (by omega)
theorem SOK.take {tx : Int} (h : SOK n f o cl al ou x aS aK) (hd : 0 < x.d) {u : Int} (hu : u = x.st (x.fp ((x.d : Int) - 1))) (he : ¬ x.pr u < f (u + 1)) (hne : x.low u = x.idx u) {t : Nat} (ht : (t : Int) = x.fp ((x.d : Int) - 1)) {y : TakeOut} {low1 : Int → Int} (hl : low1 = x.low)
    (hy : TakeRel x.K x.m x.r t n f o cl al tx 0 x.st x.comp x.on x.beg x.en x.cls x.cnt x.siz x.spt x.fo y) : SOK n f o cl al ou (x.taken low1 t y) aS aK := by
  subst hl
  have hfb := h.ts.fpb ((x.d : Int) - 1) (by omega) (by omega)
  have hA1 := h.ts.A1 _ hfb.1 hfb.2.1
  rw [← hu] at hA1
  have hp := h.ts.prb u hA1.1.1 hA1.1.2.1
  have e : ((x.d : Int) - 1).toNat = x.d - 1 := by omega
  refine ⟨?_, h.tk.take h.ts (fun v hv => ALn hv) hd hu (by omega) hne ht hy.pop hy.fo1 hy.fo2, hy.gB, hy.gE, hy.gX, hy.gT, hy.gZ, hy.gW, hy.gD, ?_, ?_⟩
  · show Ts _ _ _ _ _ _ _ ((x.d : Int) - 1).toNat _ _ _ _ _ _ _ _ _ _
    rw [e]; exact h.ts.take (fun v hv => ALn hv) hd hu (by omega) hne ht h.tk.K1 hy.pop
  · show Gs ⟨x.bS, x.sS, ((t : Nat) : Int), ints .i32 x.st⟩ 1 t (.slice aS t x.cS)
    exact h.gS.shrink (by omega) (by omega)
  · show Gs ⟨x.bK, x.sK, 2 * ((((x.d : Int) - 1).toNat : Nat) : Int), ints .i32 x.cc⟩ 2 ((x.d : Int) - 1).toNat (.slice aK ((x.d : Int) - 1).toNat x.cK)
    exact h.gK.shrink hd (by omega)
theorem Ts.d_le {A : Int → Prop} {r d m : Nat} {seen : Int} {st fp idx low pr cc comp : Int → Int} {on : Int → Bool} (h : Ts n f o cl al A r d m seen st fp idx low pr cc comp on) : d ≤ r := by
  have key : ∀ j : Nat, j < d → (j : Int) ≤ fp j := by
    intro j
    induction j with
    | zero => intro hj; have := (h.fpb ((0 : Nat) : Int) (by omega) (by omega)).1; omega
    | succ j ih =>
      intro hj
      have h1 := ih (by omega)
      have h2 := h.fpi (j : Int) ((j + 1 : Nat) : Int) (by omega) (by omega) (by omega)
      omega
  by_cases hd : d = 0
  · omega
  · have h1 := key (d - 1) (by omega)
    have h2 := (h.fpb ((d - 1 : Nat) : Int) (by omega) (by omega)).2.1
    omega
theorem Tk.alive {A : Int → Prop} {K m : Nat} {comp fo beg en : Int → Int} (h : Tk n f o cl al A K m comp fo beg en) {v : Int} (h0 : 0 ≤ v) (h1 : v < (n : Int)) (hc : 0 ≤ comp v) : A v := by
  by_cases ha : A v
  · exact ha
  · have := h.cO v h0 h1 ha; omega
end

theorem upd_ne {f : Int → Int} {m z i : Int} (hz : z ≠ 0) (h : f i ≠ 0) : upd f m z i ≠ 0 := by
  by_cases e : i = m
  · subst e; rw [upd_same]; exact hz
  · rw [upd_other _ _ _ e]; exact h
theorem Ts.all_taken' {n : Nat} {f o cl : Int → Int} {al : Int} {ou : Int → Bool} {r d m K : Nat} {seen : Int} {st fp idx low pr cc comp fo beg en : Int → Int} {on : Int → Bool} (h : Ts n f o cl al (AL n ou) r d m seen st fp idx low pr cc comp on) (hr : r = 0) (hk : Tk n f o cl al (AL n ou) K m comp fo beg en) (hall : ∀ i, 0 ≤ i → i < (n : Int) → AL n ou i → idx i ≠ 0) :
    (∀ v, AL n ou v → 1 ≤ comp v) ∧ (m : Int) = sumF (fun v => if ou v = true then 0 else 1) n ∧ (∀ v, on v = false) := by
  subst hr
  exact h.all_taken hk hall
theorem Ts.reset' {n : Nat} {f o cl : Int → Int} {al : Int} {ou : Int → Bool} {r d m K : Nat} {seen : Int} {st fp idx low pr cc comp fo beg en : Int → Int} {on : Int → Bool} (h : Ts n f o cl al (AL n ou) r d m seen st fp idx low pr cc comp on) (hr : r = 0) (hk : Tk n f o cl al (AL n ou) K m comp fo beg en) {g : Int → Int} (h1 : ∀ i, 0 ≤ i → i < (m : Int) → g (fo i) = 0) (h2 : ∀ v, g v = 0 ∨ g v = idx v) : ∀ v, g v = 0 := by
  subst hr
  exact h.reset hk h1 h2

structure SOut where
  (x : SSt) (aS aK : Option Addr)
/-- What a split leaves. -/
structure SRel (n : Nat) (f o cl : Int → Int) (al : Int) (ou : Int → Bool) (x : SSt) : Prop where
  tk : Tk n f o cl al (AL n ou) x.K x.m x.comp x.fo x.beg x.en
  all : ∀ v, AL n ou v → 1 ≤ x.comp v
  cnt : (x.m : Int) = sumF (fun v => if ou v = true then 0 else 1) n
  on : ∀ v, x.on v = false
  r0 : x.r = 0
  gB : Gs ⟨x.bB, x.sB, x.K, ints .i32 x.beg⟩ 1 x.K (.slice x.aB x.K x.cB)
  gE : Gs ⟨x.bE, x.sE, x.K, ints .i32 x.en⟩ 1 x.K (.slice x.aE x.K x.cE)

def SSt.start (n : Nat) (f : Int → Int) (ou : Int → Bool) (bB bE bX bT bZ bW : Nat) : SSt where
  bS := 0
  sS := 0
  cS := 0
  bK := 0
  sK := 0
  cK := 0
  bB := bB
  sB := 1
  cB := 1
  bE := bE
  sE := 1
  cE := 1
  bX := bX
  sX := 1
  cX := 1
  bT := bT
  sT := 1
  cT := 1
  bZ := bZ
  sZ := 1
  cZ := 1
  bW := bW
  sW := 1
  cW := 1
  bD := 0
  sD := 0
  cD := 0
  r := 0
  d := 0
  K := 1
  m := 0
  aB := some ⟨bB, 0, none⟩
  aE := some ⟨bE, 0, none⟩
  aX := some ⟨bX, 0, none⟩
  aT := some ⟨bT, 0, none⟩
  aZ := some ⟨bZ, 0, none⟩
  aW := some ⟨bW, 0, none⟩
  aD := none
  seen := 0
  st := fun _ => 0
  fp := fun _ => 0
  idx := fun _ => 0
  low := fun _ => 0
  pr := f
  cc := fun _ => 0
  comp := fun v => if ou v = true then -1 else 0
  fo := fun _ => 0
  beg := fun _ => 0
  en := fun _ => n
  cls := fun _ => 0
  cnt := fun _ => 0
  siz := fun _ => 0
  spt := fun _ => 0
  on := fun _ => false
theorem SOK.start {n : Nat} {f o cl : Int → Int} {al : Int} {ou : Int → Bool} {bB bE bX bT bZ bW : Nat} (hfm : ∀ v, 0 ≤ v → v < (n : Int) → f v ≤ f (v + 1)) : SOK n f o cl al ou (SSt.start n f ou bB bE bX bT bZ bW) none none where
  ts := Ts.start (fun v hv => ALn hv) hfm (fun v => by show (if ou v = true then (-1 : Int) else 0) ≤ 0; split <;> omega)
  tk := Tk.start (fun v hv => by show (if ou v = true then (-1 : Int) else 0) = 0; rw [hv.2.2]; rfl) (fun v v0 v1 va => by
    show (if ou v = true then (-1 : Int) else 0) = -1
    rw [if_pos]
    cases ho : ou v with
    | true => rfl
    | false => exact absurd ⟨v0, v1, ho⟩ va) (fun v => by show (if ou v = true then (-1 : Int) else 0) ≤ 0; split <;> omega)
  gB := .inr ⟨Nat.one_pos, 1, rfl, rfl, Nat.le_refl _⟩
  gE := .inr ⟨Nat.one_pos, 1, rfl, rfl, Nat.le_refl _⟩
  gX := .inr ⟨Nat.one_pos, 1, rfl, rfl, Nat.le_refl _⟩
  gT := .inr ⟨Nat.one_pos, 1, rfl, rfl, Nat.le_refl _⟩
  gZ := .inr ⟨Nat.one_pos, 1, rfl, rfl, Nat.le_refl _⟩
  gW := .inr ⟨Nat.one_pos, 1, rfl, rfl, Nat.le_refl _⟩
  gD := .inl ⟨rfl, rfl, rfl⟩
  gS := .inl ⟨rfl, rfl, rfl⟩
  gK := .inl ⟨rfl, rfl, rfl⟩
end Go.Proofs.Qxb6001307a
