/-
  OWN WORK (the rule applications laid by a program of our own, wip/gen). partition.take.
-/
import Derived.Test.Qxb6001307aPlainA
import Derived.Test.Qxb6001307aTypes
import Derived.Test.Qxb6001307aSmall
namespace Go.Proofs.Qxb6001307a
open Go.RowKit
set_option linter.unusedSimpArgs false
set_option linter.unusedVariables false

/-- What the nodes' taking off the stack from place 'r1' on does to their components and marks. -/
structure Popped (r1 r n K : Nat) (st : Int → Int) (comp : Int → Int) (on : Int → Bool) (comp1 : Int → Int) (on1 : Int → Bool) : Prop where
  c1 : ∀ i, (r1 : Int) ≤ i → i < (r : Int) → comp1 (st i) = K
  c2 : ∀ v, (∀ i, (r1 : Int) ≤ i → i < (r : Int) → st i ≠ v) → comp1 v = comp v
  o1 : ∀ i, (r1 : Int) ≤ i → i < (r : Int) → on1 (st i) = false
  o2 : ∀ v, (∀ i, (r1 : Int) ≤ i → i < (r : Int) → st i ≠ v) → on1 v = on v
theorem Popped.start (r n K : Nat) (st comp : Int → Int) (on : Int → Bool) : Popped r r n K st comp on comp on :=
  ⟨fun i h0 h1 => by omega, fun _ _ => rfl, fun i h0 h1 => by omega, fun _ _ => rfl⟩
theorem Popped.next {r1 r n K : Nat} {st comp comp1 : Int → Int} {on on1 : Int → Bool} (h : Popped r1 r n K st comp on comp1 on1) (h0 : 0 < r1) (h1 : r1 ≤ r) :
    Popped ((r1 : Int) - 1).toNat r n K st comp on (upd comp1 (st ((r1 : Int) - 1)) K) (upd on1 (st ((r1 : Int) - 1)) false) := by
  refine ⟨fun i a b => ?_, fun v hv => ?_, fun i a b => ?_, fun v hv => ?_⟩
  · by_cases e : st i = st ((r1 : Int) - 1)
    · rw [e, upd_same]
    · rw [upd_other _ _ _ e]
      exact h.c1 i (by have : i ≠ (r1 : Int) - 1 := fun e2 => e (by rw [e2]); omega) b
  · rw [upd_other _ _ _ (fun e => hv ((r1 : Int) - 1) (by omega) (by omega) e.symm)]
    exact h.c2 v fun i a b => hv i (by omega) b
  · by_cases e : st i = st ((r1 : Int) - 1)
    · rw [e, upd_same]
    · rw [upd_other _ _ _ e]
      exact h.o1 i (by have : i ≠ (r1 : Int) - 1 := fun e2 => e (by rw [e2]); omega) b
  · rw [upd_other _ _ _ (fun e => hv ((r1 : Int) - 1) (by omega) (by omega) e.symm)]
    exact h.o2 v fun i a b => hv i (by omega) b
theorem take_fo1 {fo1 fo : Int → Int} {m m1 : Nat} {z : Int} (h : ∀ x, 0 ≤ x → x < (m : Int) → fo1 x = fo x) (hm : (m : Int) ≤ m1) : ∀ x, 0 ≤ x → x < (m : Int) → upd fo1 (m1 : Int) z x = fo x := by
  intro x h0 h1
  rw [upd_other _ _ _ (by omega)]; exact h x h0 h1
theorem take_fo2 {fo1 st : Int → Int} {m m1 r1 r : Nat} (h : ∀ i, (r1 : Int) ≤ i → i < (r : Int) → fo1 ((m : Int) + ((r : Int) - 1 - i)) = st i) (hm : m1 = m + (r - r1)) (h0 : 0 < r1) (hr : r1 ≤ r := by omega) :
    ∀ i, (((r1 : Int) - 1).toNat : Int) ≤ i → i < (r : Int) → upd fo1 (m1 : Int) (st ((r1 : Int) - 1)) ((m : Int) + ((r : Int) - 1 - i)) = st i := by
  intro i a b
  by_cases e : i = (r1 : Int) - 1
  · subst e
    have : (m : Int) + ((r : Int) - 1 - ((r1 : Int) - 1)) = m1 := by omega
    rw [this, upd_same]
  · rw [upd_other _ _ _ (by omega)]; exact h i (by omega) b

theorem adj_bounds {nf no nc : Nat} {f o : Int → Int} (h : AdjOK nf no nc f o) {v : Int} (h0 : 0 ≤ v) (h1 : v ≤ (nf : Int) - 1) : 0 ≤ f v ∧ f v ≤ no := by
  obtain ⟨a1, a2, a3, a4, a5, a6⟩ := h
  have up : ∀ k : Nat, (k : Int) ≤ (nf : Int) - 1 → 0 ≤ f k := by
    intro k
    induction k with
    | zero => intro _; rw [show ((0 : Nat) : Int) = 0 from rfl, a2]; omega
    | succ k ih =>
      intro hk
      have := ih (by omega)
      have := a3 (k : Int) (by omega) (by omega)
      rw [show ((k + 1 : Nat) : Int) = (k : Int) + 1 from by omega]
      omega
  have dn : ∀ k : Nat, (k : Int) ≤ (nf : Int) - 1 → f ((nf : Int) - 1 - k) ≤ no := by
    intro k
    induction k with
    | zero => intro _; rw [show (nf : Int) - 1 - ((0 : Nat) : Int) = (nf : Int) - 1 from by omega, a4]; omega
    | succ k ih =>
      intro hk
      have := ih (by omega)
      have h3 := a3 ((nf : Int) - 1 - ((k + 1 : Nat) : Int)) (by omega) (by omega)
      rw [show (nf : Int) - 1 - ((k + 1 : Nat) : Int) + 1 = (nf : Int) - 1 - (k : Int) from by omega] at h3
      omega
  have e1 := up v.toNat (by omega)
  have e2 := dn ((nf : Int) - 1 - v).toNat (by omega)
  rw [show ((v.toNat : Nat) : Int) = v from by omega] at e1
  rw [show (nf : Int) - 1 - ((((nf : Int) - 1 - v).toNat : Nat) : Int) = v from by omega] at e2
  exact ⟨e1, e2⟩

/-- The classes of the edges of one node within the new component, up to edge 'e'. -/
def Edg (f o cl : Int → Int) (al : Int) (comp : Int → Int) (K : Nat) (v e : Int) : Int → Prop := fun z => ∃ q, f v ≤ q ∧ q < e ∧ comp (o q) = K ∧ z = band (cl q) al
theorem edg_yes {f o cl : Int → Int} {al : Int} {comp : Int → Int} {K : Nat} {v e : Int} {S : Int → Prop} (h0 : f v ≤ e) (h : comp (o e) = K) : ∀ y, (S y ∨ Edg f o cl al comp K v (e + 1) y) ↔ (S y ∨ Edg f o cl al comp K v e y) ∨ y = band (cl e) al := by
  intro y
  constructor
  · rintro (hs | ⟨q, a, b, c, d⟩)
    · exact .inl (.inl hs)
    · by_cases hq : q = e
      · subst hq; exact .inr d
      · exact .inl (.inr ⟨q, a, by omega, c, d⟩)
  · rintro ((hs | ⟨q, a, b, c, d⟩) | rfl)
    · exact .inl hs
    · exact .inr ⟨q, a, by omega, c, d⟩
    · exact .inr ⟨e, h0, by omega, h, rfl⟩
theorem edg_no {f o cl : Int → Int} {al : Int} {comp : Int → Int} {K : Nat} {v e : Int} {S : Int → Prop} (h : ¬ comp (o e) = K) : ∀ y, (S y ∨ Edg f o cl al comp K v e y) ↔ (S y ∨ Edg f o cl al comp K v (e + 1) y) := by
  intro y
  constructor
  · rintro (hs | ⟨q, a, b, c, d⟩)
    · exact .inl hs
    · exact .inr ⟨q, a, by omega, c, d⟩
  · rintro (hs | ⟨q, a, b, c, d⟩)
    · exact .inl hs
    · refine .inr ⟨q, a, ?_, c, d⟩
      have : q ≠ e := fun hq => h (by rw [← hq]; exact c)
      omega
/-- The classes of the edges within the new component, of the nodes found so far. -/
def Ctr (f o cl : Int → Int) (al : Int) (comp : Int → Int) (K : Nat) (fo : Int → Int) (m : Nat) (i : Int) : Int → Prop :=
  fun z => ∃ j, 0 ≤ j ∧ j < i ∧ ∃ e, f (fo ((m : Int) + j)) ≤ e ∧ e < f (fo ((m : Int) + j) + 1) ∧ comp (o e) = K ∧ z = band (cl e) al
theorem ctr_next {f o cl : Int → Int} {al : Int} {comp : Int → Int} {K : Nat} {fo : Int → Int} {m : Nat} {i e x : Int} (h0 : 0 ≤ i) (he : e = f (fo ((m : Int) + i) + 1)) (h : Lub x (fun q => Ctr f o cl al comp K fo m i q ∨ Edg f o cl al comp K (fo ((m : Int) + i)) e q)) : Lub x (Ctr f o cl al comp K fo m (i + 1)) := by
  subst he
  refine h.same fun q => ⟨?_, ?_⟩
  · rintro (⟨j, a, b, c⟩ | ⟨e, a, b, c, d⟩)
    · exact ⟨j, a, by omega, c⟩
    · exact ⟨i, h0, by omega, e, a, b, c, d⟩
  · rintro ⟨j, a, b, c⟩
    by_cases hj : j = i
    · subst hj; exact .inr c
    · exact .inl ⟨j, a, by omega, c⟩

structure TakeOut where
  (bB sB cB bE sE cE bX sX cX bT sT cT bZ sZ cZ bW sW cW bD sD cD : Nat) (aB aE aX aT aZ aW : Option Addr) (comp : Int → Int) (on : Int → Bool) (fo : Int → Int) (x ct z : Int)

/-- What 'take' leaves. -/
structure TakeRel (K m r t n : Nat) (f o cl : Int → Int) (al tx c : Int) (st comp : Int → Int) (on : Int → Bool) (beg en cls cnt siz spt fo : Int → Int) (y : TakeOut) : Prop where
  gB : Gs ⟨y.bB, y.sB, K + 1, ints .i32 (upd beg K (beg c + m))⟩ 1 (K + 1) (.slice y.aB (K + 1) y.cB)
  gE : Gs ⟨y.bE, y.sE, K + 1, ints .i32 (upd en K (beg c + ((m + (r - t) : Nat) : Int)))⟩ 1 (K + 1) (.slice y.aE (K + 1) y.cE)
  gX : Gs ⟨y.bX, y.sX, K + 1, ints .u8 (upd cls K y.x)⟩ 1 (K + 1) (.slice y.aX (K + 1) y.cX)
  gT : Gs ⟨y.bT, y.sT, K + 1, ints .i32 (upd cnt K y.ct)⟩ 1 (K + 1) (.slice y.aT (K + 1) y.cT)
  gZ : Gs ⟨y.bZ, y.sZ, K + 1, ints .i64 (upd siz K y.z)⟩ 1 (K + 1) (.slice y.aZ (K + 1) y.cZ)
  gW : Gs ⟨y.bW, y.sW, K + 1, ints .i64 (upd spt K 0)⟩ 1 (K + 1) (.slice y.aW (K + 1) y.cW)
  gD : Gs ⟨y.bD, y.sD, ((m + (r - t) : Nat) : Int), ints .i32 y.fo⟩ 1 (m + (r - t)) (.slice (some ⟨y.bD, 0, none⟩) (m + (r - t)) y.cD)
  pop : Popped t r n K st comp on y.comp y.on
  fo1 : ∀ x, 0 ≤ x → x < (m : Int) → y.fo x = fo x
  fo2 : ∀ i, (t : Int) ≤ i → i < (r : Int) → y.fo ((m : Int) + ((r : Int) - 1 - i)) = st i
  lub : Lub y.x (Ctr f o cl al y.comp K y.fo m ((m + (r - t) - m : Nat) : Int))
  ct : y.ct = sumF (fun j => if y.fo ((m : Int) + j) < tx then 1 else 0) (((m + (r - t) - m : Nat) : Int)).toNat
  z : y.z = sumF (fun j => 1 + (f (y.fo ((m : Int) + j) + 1) - f (y.fo ((m : Int) + j)))) (((m + (r - t) - m : Nat) : Int)).toNat

set_option maxHeartbeats 1000000 in
theorem take33 (B : Nat → Prop) (w0 : World) (bP bA nf no n K r m s0 bF sF cF bO sO cO bL sL cL bC sC cC bB sB cB bE sE cE bX sX cX bT sT cT bZ sZ cZ bW sW cW bN sN cN bS sS cS bD sD cD : Nat) (aF aO aL aC aB aE aX aT aZ aW aN aD : Option Addr) (f o cl comp beg en cls cnt siz spt st fo : Int → Int) (on : Int → Bool) (al tx c u : Int) (vMem vIdx vLow vCalls : Value)
    (hF : 0 < nf → aF = some ⟨bF, 0, none⟩) (hO : 0 < no → aO = some ⟨bO, 0, none⟩) (hL : 0 < no → aL = some ⟨bL, 0, none⟩) (hC : 0 < n → aC = some ⟨bC, 0, none⟩) (hN : 0 < n → aN = some ⟨bN, 0, none⟩)
    (gB : Gs ⟨bB, sB, K, ints .i32 beg⟩ 1 K (.slice aB K cB)) (gE : Gs ⟨bE, sE, K, ints .i32 en⟩ 1 K (.slice aE K cE)) (gX : Gs ⟨bX, sX, K, ints .u8 cls⟩ 1 K (.slice aX K cX)) (gT : Gs ⟨bT, sT, K, ints .i32 cnt⟩ 1 K (.slice aT K cT)) (gZ : Gs ⟨bZ, sZ, K, ints .i64 siz⟩ 1 K (.slice aZ K cZ)) (gW : Gs ⟨bW, sW, K, ints .i64 spt⟩ 1 K (.slice aW K cW)) (gD : Gs ⟨bD, sD, m, ints .i32 fo⟩ 1 m (.slice aD m cD))
    (hadj : AdjOK nf no no f o) (hnn : (n : Int) = (nf : Int) - 1) (hnf : (nf : Int) ≤ 1048576) (hno : (no : Int) ≤ 1048576) (hK : (K : Int) ≤ 1048576) (hmr : (m : Int) + r ≤ 1048576) (hrs : r ≤ s0) (hrc : r ≤ cS)
    (hc0 : 0 ≤ c) (hcK : c < (K : Int)) (hb0 : 0 ≤ beg c) (hb1 : beg c ≤ 1048576) (t : Nat) (ht : t < r) (hu : st t = u) (hu2 : ∀ i, (t : Int) < i → i < (r : Int) → st i ≠ u) (hnd : ∀ i, 0 ≤ i → i < (r : Int) → 0 ≤ st i ∧ st i < (n : Int)) :
    ∀ w, Mem B w0 [(30, ⟨bP, 17, 17, fl [.pointer (some ⟨bA, 0, none⟩), .int .u8 al, .int .i32 tx, .slice aC n cC, vMem, .slice aB K cB, .slice aE K cE, .slice aX K cX, .slice aT K cT, .slice aZ K cZ, .slice aW K cW, vIdx, vLow, .slice aN n cN, .slice (some ⟨bS, 0, none⟩) r cS, vCalls, .slice aD m cD]⟩), (31, ⟨bA, 3, 3, fl [.slice aF nf cF, .slice aO no cO, .slice aL no cL]⟩), (32, ⟨bF, sF, nf, ints .i32 f⟩), (33, ⟨bO, sO, no, ints .i32 o⟩), (34, ⟨bL, sL, no, ints .u8 cl⟩), (35, ⟨bC, sC, n, ints .i32 comp⟩), (36, ⟨bB, sB, K, ints .i32 beg⟩), (37, ⟨bE, sE, K, ints .i32 en⟩), (38, ⟨bX, sX, K, ints .u8 cls⟩), (39, ⟨bT, sT, K, ints .i32 cnt⟩), (40, ⟨bZ, sZ, K, ints .i64 siz⟩), (41, ⟨bW, sW, K, ints .i64 spt⟩), (42, ⟨bN, sN, n, bools on⟩), (43, ⟨bS, sS, s0, ints .i32 st⟩), (44, ⟨bD, sD, m, ints .i32 fo⟩)] w → Calls Try.prog 33 #[.pointer (some ⟨bP, 0, none⟩), .int .i32 c, .int .i32 u] w (fun e w' => ∃ y : TakeOut, TakeRel K m r t n f o cl al tx c st comp on beg en cls cnt siz spt fo y ∧ e = .returned (.tuple #[]) ∧ Mem B w0 [(30, ⟨bP, 17, 17, fl [.pointer (some ⟨bA, 0, none⟩), .int .u8 al, .int .i32 tx, .slice aC n cC, vMem, .slice y.aB (K + 1) y.cB, .slice y.aE (K + 1) y.cE, .slice y.aX (K + 1) y.cX, .slice y.aT (K + 1) y.cT, .slice y.aZ (K + 1) y.cZ, .slice y.aW (K + 1) y.cW, vIdx, vLow, .slice aN n cN, .slice (some ⟨bS, 0, none⟩) t cS, vCalls, .slice (some ⟨y.bD, 0, none⟩) (m + (r - t)) y.cD]⟩), (31, ⟨bA, 3, 3, fl [.slice aF nf cF, .slice aO no cO, .slice aL no cL]⟩), (32, ⟨bF, sF, nf, ints .i32 f⟩), (33, ⟨bO, sO, no, ints .i32 o⟩), (34, ⟨bL, sL, no, ints .u8 cl⟩), (35, ⟨bC, sC, n, ints .i32 y.comp⟩), (36, ⟨y.bB, y.sB, (K + 1), ints .i32 (upd beg K (beg c + m))⟩), (37, ⟨y.bE, y.sE, (K + 1), ints .i32 (upd en K (beg c + ((m + (r - t) : Nat) : Int)))⟩), (38, ⟨y.bX, y.sX, (K + 1), ints .u8 (upd cls K y.x)⟩), (39, ⟨y.bT, y.sT, (K + 1), ints .i32 (upd cnt K y.ct)⟩), (40, ⟨y.bZ, y.sZ, (K + 1), ints .i64 (upd siz K y.z)⟩), (41, ⟨y.bW, y.sW, (K + 1), ints .i64 (upd spt K 0)⟩), (42, ⟨bN, sN, n, bools y.on⟩), (43, ⟨bS, sS, s0, ints .i32 st⟩), (44, ⟨y.bD, y.sD, ((m + (r - t) : Nat) : Int), ints .i32 y.fo⟩)] w') := by
  refine enter (N := 252) (vs := [.pointer (some ⟨bP, 0, none⟩), .int .i32 c, .int .i32 u]) Try.func33 rfl Try.ntmps33 rfl ?_
  refine C_seq ?_
  refine C_region ?_
  refine V_w0.q (QY_move rfl) rfl ?_
  refine W_fld V_w0 (q := 30) rfl rfl fa61_5 lf22 (by decide) rfl rfl rfl rfl ?_
  refine V_w0.q (QY_len sl22 rfl) rfl ?_
  refine V_w0.q (QY_conv it3 it21 rfl ⟨by omega, by omega⟩) rfl ?_
  refine V_w0.q (QY_assign rfl) rfl ?_
  refine V_nil (X_next ?_)
  refine C_seq ?_
  refine C_region ?_
  refine V_w0.q (QY_move rfl) rfl ?_
  refine W_fld V_w0 (q := 30) rfl rfl fa61_16 lf22 (by decide) rfl rfl rfl rfl ?_
  refine V_w0.q (QY_len sl22 rfl) rfl ?_
  refine V_w0.q (QY_assign rfl) rfl ?_
  refine V_nil (X_next ?_)
  refine C_cut (T := (Int → Int) × (Int → Bool) × Nat × Nat × Nat × Nat × (Int → Int)) (fun (x : (Int → Int) × (Int → Bool) × Nat × Nat × Nat × Nat × (Int → Int)) => match x with | (comp1, on1, bD1, sD1, cD1, m2, fo1) => [(0, .pointer (some ⟨bP, 0, none⟩)), (1, .int .i32 c), (2, .int .i32 u), (6, .int .i32 (K : Int)), (7, .int .i64 (m : Int))]) (fun (x : (Int → Int) × (Int → Bool) × Nat × Nat × Nat × Nat × (Int → Int)) => match x with | (comp1, on1, bD1, sD1, cD1, m2, fo1) => [(30, ⟨bP, 17, 17, fl [.pointer (some ⟨bA, 0, none⟩), .int .u8 al, .int .i32 tx, .slice aC n cC, vMem, .slice aB K cB, .slice aE K cE, .slice aX K cX, .slice aT K cT, .slice aZ K cZ, .slice aW K cW, vIdx, vLow, .slice aN n cN, .slice (some ⟨bS, 0, none⟩) t cS, vCalls, .slice (some ⟨bD1, 0, none⟩) m2 cD1]⟩), (31, ⟨bA, 3, 3, fl [.slice aF nf cF, .slice aO no cO, .slice aL no cL]⟩), (32, ⟨bF, sF, nf, ints .i32 f⟩), (33, ⟨bO, sO, no, ints .i32 o⟩), (34, ⟨bL, sL, no, ints .u8 cl⟩), (35, ⟨bC, sC, n, ints .i32 comp1⟩), (36, ⟨bB, sB, K, ints .i32 beg⟩), (37, ⟨bE, sE, K, ints .i32 en⟩), (38, ⟨bX, sX, K, ints .u8 cls⟩), (39, ⟨bT, sT, K, ints .i32 cnt⟩), (40, ⟨bZ, sZ, K, ints .i64 siz⟩), (41, ⟨bW, sW, K, ints .i64 spt⟩), (42, ⟨bN, sN, n, bools on1⟩), (43, ⟨bS, sS, s0, ints .i32 st⟩), (44, ⟨bD1, sD1, m2, ints .i32 fo1⟩)]) (fun (x : (Int → Int) × (Int → Bool) × Nat × Nat × Nat × Nat × (Int → Int)) => match x with | (comp1, on1, bD1, sD1, cD1, m2, fo1) => m2 = m + (r - t) ∧ Gs ⟨bD1, sD1, m2, ints .i32 fo1⟩ 1 m2 (.slice (some ⟨bD1, 0, none⟩) m2 cD1) ∧ Popped t r n K st comp on comp1 on1 ∧ (∀ x, 0 ≤ x → x < (m : Int) → fo1 x = fo x) ∧ (∀ i, (t : Int) ≤ i → i < (r : Int) → fo1 ((m : Int) + ((r : Int) - 1 - i)) = st i)) ?_ ?_
  ·
    refine C_block ?_
    refine C_loops (T := Nat × (Int → Int) × (Int → Bool) × Nat × Nat × Option Addr × Nat × Nat × (Int → Int)) (fun (x : Nat × (Int → Int) × (Int → Bool) × Nat × Nat × Option Addr × Nat × Nat × (Int → Int)) => match x with | (r1, comp1, on1, bD1, sD1, aD1, cD1, m1, fo1) => [(0, .pointer (some ⟨bP, 0, none⟩)), (1, .int .i32 c), (2, .int .i32 u), (6, .int .i32 (K : Int)), (7, .int .i64 (m : Int))]) (fun (x : Nat × (Int → Int) × (Int → Bool) × Nat × Nat × Option Addr × Nat × Nat × (Int → Int)) => match x with | (r1, comp1, on1, bD1, sD1, aD1, cD1, m1, fo1) => [(30, ⟨bP, 17, 17, fl [.pointer (some ⟨bA, 0, none⟩), .int .u8 al, .int .i32 tx, .slice aC n cC, vMem, .slice aB K cB, .slice aE K cE, .slice aX K cX, .slice aT K cT, .slice aZ K cZ, .slice aW K cW, vIdx, vLow, .slice aN n cN, .slice (some ⟨bS, 0, none⟩) r1 cS, vCalls, .slice aD1 m1 cD1]⟩), (31, ⟨bA, 3, 3, fl [.slice aF nf cF, .slice aO no cO, .slice aL no cL]⟩), (32, ⟨bF, sF, nf, ints .i32 f⟩), (33, ⟨bO, sO, no, ints .i32 o⟩), (34, ⟨bL, sL, no, ints .u8 cl⟩), (35, ⟨bC, sC, n, ints .i32 comp1⟩), (36, ⟨bB, sB, K, ints .i32 beg⟩), (37, ⟨bE, sE, K, ints .i32 en⟩), (38, ⟨bX, sX, K, ints .u8 cls⟩), (39, ⟨bT, sT, K, ints .i32 cnt⟩), (40, ⟨bZ, sZ, K, ints .i64 siz⟩), (41, ⟨bW, sW, K, ints .i64 spt⟩), (42, ⟨bN, sN, n, bools on1⟩), (43, ⟨bS, sS, s0, ints .i32 st⟩), (44, ⟨bD1, sD1, m1, ints .i32 fo1⟩)]) (fun (x : Nat × (Int → Int) × (Int → Bool) × Nat × Nat × Option Addr × Nat × Nat × (Int → Int)) => match x with | (r1, comp1, on1, bD1, sD1, aD1, cD1, m1, fo1) => t < r1 ∧ r1 ≤ r ∧ m1 = m + (r - r1) ∧ Gs ⟨bD1, sD1, m1, ints .i32 fo1⟩ 1 m1 (.slice aD1 m1 cD1) ∧ Popped r1 r n K st comp on comp1 on1 ∧ (∀ x, 0 ≤ x → x < (m : Int) → fo1 x = fo x) ∧ (∀ i, (r1 : Int) ≤ i → i < (r : Int) → fo1 ((m : Int) + ((r : Int) - 1 - i)) = st i)) (fun (x : Nat × (Int → Int) × (Int → Bool) × Nat × Nat × Option Addr × Nat × Nat × (Int → Int)) => match x with | (r1, comp1, on1, bD1, sD1, aD1, cD1, m1, fo1) => r1) (r, comp, on, bD, sD, aD, cD, m, fo) ?_ ?_ ?_ ?_
    · exact ⟨ht, Nat.le_refl _, by omega, gD, Popped.start _ _ _ _ _ _, fun _ _ _ => rfl, fun i h0 h1 => by omega⟩
    · exact ⟨rfl, rfl, rfl, rfl, rfl, trivial⟩
    · exact ⟨rfl, rfl, rfl, rfl, rfl, rfl, rfl, rfl, rfl, rfl, rfl, rfl, rfl, rfl, rfl, trivial⟩
    rintro ⟨r1, comp1, on1, bD1, sD1, aD1, cD1, m1, fo1⟩ ⟨ht1, hr1r, hm1, hG1, hpop, hfo, hfo2⟩
    show C _ _ _ _ _ _ [(0, .pointer (some ⟨bP, 0, none⟩)), (1, .int .i32 c), (2, .int .i32 u), (6, .int .i32 (K : Int)), (7, .int .i64 (m : Int))] [(30, ⟨bP, 17, 17, fl [.pointer (some ⟨bA, 0, none⟩), .int .u8 al, .int .i32 tx, .slice aC n cC, vMem, .slice aB K cB, .slice aE K cE, .slice aX K cX, .slice aT K cT, .slice aZ K cZ, .slice aW K cW, vIdx, vLow, .slice aN n cN, .slice (some ⟨bS, 0, none⟩) r1 cS, vCalls, .slice aD1 m1 cD1]⟩), (31, ⟨bA, 3, 3, fl [.slice aF nf cF, .slice aO no cO, .slice aL no cL]⟩), (32, ⟨bF, sF, nf, ints .i32 f⟩), (33, ⟨bO, sO, no, ints .i32 o⟩), (34, ⟨bL, sL, no, ints .u8 cl⟩), (35, ⟨bC, sC, n, ints .i32 comp1⟩), (36, ⟨bB, sB, K, ints .i32 beg⟩), (37, ⟨bE, sE, K, ints .i32 en⟩), (38, ⟨bX, sX, K, ints .u8 cls⟩), (39, ⟨bT, sT, K, ints .i32 cnt⟩), (40, ⟨bZ, sZ, K, ints .i64 siz⟩), (41, ⟨bW, sW, K, ints .i64 spt⟩), (42, ⟨bN, sN, n, bools on1⟩), (43, ⟨bS, sS, s0, ints .i32 st⟩), (44, ⟨bD1, sD1, m1, ints .i32 fo1⟩)]
    refine C_block ?_
    refine C_seq ?_
    refine C_draw mix (by kernel_rfl) ?_
    refine S_w0.q (QY_move rfl) rfl ?_
    refine W_fld S_w0 (q := 30) rfl rfl fa61_14 lf22 (by decide) rfl rfl rfl rfl ?_
    refine S_w0.q (QY_move rfl) rfl ?_
    refine W_fld S_w0 (q := 30) rfl rfl fa61_14 lf22 (by decide) rfl rfl rfl rfl ?_
    refine S_w0.q (QY_len sl22 rfl) rfl ?_
    refine S_w0.q (QY_arith rfl rfl rfl ⟨by omega, by omega⟩) rfl ?_
    refine W_elem S_w0 rfl rfl (Rd_own (q := 43) rfl (by omega)) (by omega) (by omega) sl22 lf21 rfl rfl (fun _ => ?_)
    refine S_w0.q (QY_assign rfl) rfl ?_
    refine S_nil (X_next ?_)
    refine C_seq ?_
    refine C_draws 12 12 mix (by kernel_rfl) ?_
    refine T_w0.q (QY_move rfl) rfl ?_
    refine T_w0.q (QY_move rfl) rfl ?_
    refine W_fld T_w0 (q := 30) rfl rfl fa61_14 lf22 (by decide) rfl rfl rfl rfl ?_
    refine T_w0.q (QY_move rfl) rfl ?_
    refine W_fld T_w0 (q := 30) rfl rfl fa61_14 lf22 (by decide) rfl rfl rfl rfl ?_
    refine T_w0.q (QY_len sl22 rfl) rfl ?_
    refine T_w0.q (QY_arith rfl rfl rfl ⟨by omega, by omega⟩) rfl ?_
    refine T_w0.q (QY_slice_hi sl22 rfl rfl (by omega) (by omega) (by omega)) rfl ?_
    refine T_tail rfl rfl ?_
    refine V_fset (q := 30) rfl rfl fa61_14 lf22 (by decide) rfl rfl rfl rfl rfl ?_
    refine V_nil (X_Qn (X_next ?_))
    refine C_seq ?_
    refine C_region ?_
    refine V_w0.q (QY_move rfl) rfl ?_
    refine W_fld V_w0 (q := 30) rfl rfl fa61_13 lf26 (by decide) rfl rfl rfl rfl ?_
    have hnode := hnd ((r1 : Int) - 1) (by omega) (by omega)
    refine V_w0.q (QY_move rfl) rfl ?_
    refine V_set (q := 42) rfl rfl (hN (by omega)) rfl rfl (by omega) (by omega) (by omega) sl26 lf4 rfl rfl (upd_bools _ _ _) (fun _ => ?_)
    refine V_nil (X_next ?_)
    refine C_seq ?_
    refine C_region ?_
    refine V_w0.q (QY_move rfl) rfl ?_
    refine W_fld V_w0 (q := 30) rfl rfl fa61_3 lf22 (by decide) rfl rfl rfl rfl ?_
    refine V_w0.q (QY_move rfl) rfl ?_
    refine V_w0.q (QY_move rfl) rfl ?_
    refine V_set (q := 35) rfl rfl (hC (by omega)) rfl rfl (by omega) (by omega) (by omega) sl22 lf21 rfl rfl (upd_ints _ _ _ _) (fun _ => ?_)
    refine V_nil (X_next ?_)
    refine C_seq ?_
    refine C_region ?_
    refine V_w0.q (QY_move rfl) rfl ?_
    refine V_w0.q (QY_move rfl) rfl ?_
    refine W_fld V_w0 (q := 30) rfl rfl fa61_16 lf22 (by decide) rfl rfl rfl rfl ?_
    refine V_w0.q (QY_move rfl) rfl ?_
    refine V_app (q := 44) mk22 rfl rfl (fun _ => rfl) hG1 (by omega) rfl rfl (by omega) (by omega) rfl rfl (upd_ints _ _ _ _) ?_
    intro _ svD bD2 sD2 hsD2 gD2
    obtain ⟨aD2, cD2, rfl⟩ := gD2.slice
    refine V_fset (q := 30) rfl rfl fa61_16 lf22 (by decide) rfl rfl rfl rfl rfl ?_
    refine V_nil (X_next ?_)
    refine C_seq ?_
    refine C_region ?_
    refine V_w0.q (QY_move rfl) rfl ?_
    refine V_w0.q (QY_move rfl) rfl ?_
    refine W_eql V_w0 rfl rfl rfl (fun h78 => ?_) (fun h78 => ?_)
    ·
      have hrt : t = ((r1 : Int) - 1).toNat := by
        by_cases e : ((r1 : Int) - 1) = t
        · omega
        · exact absurd h78 (hu2 _ (by omega) (by omega))
      subst hrt
      obtain ⟨rfl, _, _⟩ := gD2.some (by omega)
      refine V_nil (X_next ?_)
      refine C_true rfl ?_
      refine C_exit (X_block_other rfl (X_then_exit (X_block_exit (X_then ?_))))
      refine X_cut ((upd comp1 (st ((r1 : Int) - 1)) (K : Int)), (upd on1 (st ((r1 : Int) - 1)) false), bD2, sD2, cD2, m1 + 1, (upd fo1 (m1 : Int) (st ((r1 : Int) - 1)))) ?_ ?_ ?_
      · exact ⟨by omega, gD2, hpop.next (by omega) (by omega), take_fo1 hfo (by omega), take_fo2 hfo2 (by omega) (by omega)⟩
      · exact ⟨rfl, rfl, rfl, rfl, rfl, trivial⟩
      · exact ⟨rfl, rfl, rfl, rfl, rfl, rfl, rfl, rfl, rfl, rfl, rfl, rfl, rfl, rfl, rfl, trivial⟩
    ·
      refine V_nil (X_next ?_)
      refine C_false rfl ?_
      refine C_skip (X_block (X_then ?_))
      refine X_round (((r1 : Int) - 1).toNat, (upd comp1 (st ((r1 : Int) - 1)) (K : Int)), (upd on1 (st ((r1 : Int) - 1)) false), bD2, sD2, aD2, cD2, m1 + 1, (upd fo1 (m1 : Int) (st ((r1 : Int) - 1)))) ?_ ?_ ?_ ?_
      · exact ⟨by have : ((r1 : Int) - 1) ≠ t := fun e => h78 (by rw [e]; exact hu); omega, by omega, by omega, gD2, hpop.next (by omega) (by omega), take_fo1 hfo (by omega), take_fo2 hfo2 (by omega) (by omega)⟩
      · show ((r1 : Int) - 1).toNat < r1
        omega
      · exact ⟨rfl, rfl, rfl, rfl, rfl, trivial⟩
      · exact ⟨rfl, rfl, rfl, rfl, rfl, rfl, rfl, rfl, rfl, rfl, rfl, rfl, rfl, rfl, rfl, trivial⟩
  rintro ⟨comp1, on1, bD1, sD1, cD1, m2, fo1⟩ ⟨hm2, gD1, hpop, hfo, hfo2⟩
  show C _ _ _ _ _ _ [(0, .pointer (some ⟨bP, 0, none⟩)), (1, .int .i32 c), (2, .int .i32 u), (6, .int .i32 (K : Int)), (7, .int .i64 (m : Int))] [(30, ⟨bP, 17, 17, fl [.pointer (some ⟨bA, 0, none⟩), .int .u8 al, .int .i32 tx, .slice aC n cC, vMem, .slice aB K cB, .slice aE K cE, .slice aX K cX, .slice aT K cT, .slice aZ K cZ, .slice aW K cW, vIdx, vLow, .slice aN n cN, .slice (some ⟨bS, 0, none⟩) t cS, vCalls, .slice (some ⟨bD1, 0, none⟩) m2 cD1]⟩), (31, ⟨bA, 3, 3, fl [.slice aF nf cF, .slice aO no cO, .slice aL no cL]⟩), (32, ⟨bF, sF, nf, ints .i32 f⟩), (33, ⟨bO, sO, no, ints .i32 o⟩), (34, ⟨bL, sL, no, ints .u8 cl⟩), (35, ⟨bC, sC, n, ints .i32 comp1⟩), (36, ⟨bB, sB, K, ints .i32 beg⟩), (37, ⟨bE, sE, K, ints .i32 en⟩), (38, ⟨bX, sX, K, ints .u8 cls⟩), (39, ⟨bT, sT, K, ints .i32 cnt⟩), (40, ⟨bZ, sZ, K, ints .i64 siz⟩), (41, ⟨bW, sW, K, ints .i64 spt⟩), (42, ⟨bN, sN, n, bools on1⟩), (43, ⟨bS, sS, s0, ints .i32 st⟩), (44, ⟨bD1, sD1, m2, ints .i32 fo1⟩)]
  obtain ⟨_, _, hcD⟩ := gD1.some (by omega)
  have hnode2 : ∀ i, 0 ≤ i → i < ((m2 - m : Nat) : Int) → 0 ≤ fo1 ((m : Int) + i) ∧ fo1 ((m : Int) + i) < (n : Int) := by
    intro i h0 h1
    have h2 := hfo2 ((r : Int) - 1 - i) (by omega) (by omega)
    rw [show (m : Int) + ((r : Int) - 1 - ((r : Int) - 1 - i)) = (m : Int) + i from by omega] at h2
    rw [h2]
    exact hnd _ (by omega) (by omega)
  refine C_seq ?_
  refine C_region ?_
  refine V_w0.q (QY_assign rfl) rfl ?_
  refine V_nil (X_next ?_)
  refine C_seq ?_
  refine C_region ?_
  refine V_w0.q (QY_assign rfl) rfl ?_
  refine V_nil (X_next ?_)
  refine C_seq ?_
  refine C_region ?_
  refine V_w0.q (QY_move rfl) rfl ?_
  refine W_fld V_w0 (q := 30) rfl rfl fa61_0 lf53 (by decide) rfl rfl rfl rfl ?_
  refine V_w0.q (QY_assign rfl) rfl ?_
  refine V_nil (X_next ?_)
  refine C_seq ?_
  refine C_region ?_
  refine V_w0.q (QY_assign rfl) rfl ?_
  refine V_nil (X_next ?_)
  refine C_seq ?_
  refine C_seq ?_
  refine C_region ?_
  refine V_w0.q (QY_move rfl) rfl ?_
  refine W_fld V_w0 (q := 30) rfl rfl fa61_16 lf22 (by decide) rfl rfl rfl rfl ?_
  refine V_w0.q (QY_move rfl) rfl ?_
  refine V_w0.q (QY_slice_lo sl22 rfl rfl (by omega) (by omega) (by omega)) rfl ?_
  refine V_w0.q (QY_len sl22 rfl) rfl ?_
  refine V_w0.q (QY_move rfl) rfl ?_
  refine V_nil (X_next ?_)
  refine C_block ?_
  refine C_loops (T := Int × Int × Int × Int) (fun (x : Int × Int × Int × Int) => match x with | (i, x, ct, z) => [(0, .pointer (some ⟨bP, 0, none⟩)), (1, .int .i32 c), (2, .int .i32 u), (6, .int .i32 (K : Int)), (7, .int .i64 (m : Int)), (11, .pointer (some ⟨bA, 0, none⟩)), (88, .slice (some ⟨bD1, m, none⟩) (m2 - m) (cD1 - m)), (89, .int .i64 ((m2 - m : Nat) : Int)), (9, .int .u8 x), (10, .int .i32 ct), (12, .int .i64 z), (90, .int .i64 i)]) (fun (x : Int × Int × Int × Int) => match x with | (i, x, ct, z) => [(30, ⟨bP, 17, 17, fl [.pointer (some ⟨bA, 0, none⟩), .int .u8 al, .int .i32 tx, .slice aC n cC, vMem, .slice aB K cB, .slice aE K cE, .slice aX K cX, .slice aT K cT, .slice aZ K cZ, .slice aW K cW, vIdx, vLow, .slice aN n cN, .slice (some ⟨bS, 0, none⟩) t cS, vCalls, .slice (some ⟨bD1, 0, none⟩) m2 cD1]⟩), (31, ⟨bA, 3, 3, fl [.slice aF nf cF, .slice aO no cO, .slice aL no cL]⟩), (32, ⟨bF, sF, nf, ints .i32 f⟩), (33, ⟨bO, sO, no, ints .i32 o⟩), (34, ⟨bL, sL, no, ints .u8 cl⟩), (35, ⟨bC, sC, n, ints .i32 comp1⟩), (36, ⟨bB, sB, K, ints .i32 beg⟩), (37, ⟨bE, sE, K, ints .i32 en⟩), (38, ⟨bX, sX, K, ints .u8 cls⟩), (39, ⟨bT, sT, K, ints .i32 cnt⟩), (40, ⟨bZ, sZ, K, ints .i64 siz⟩), (41, ⟨bW, sW, K, ints .i64 spt⟩), (42, ⟨bN, sN, n, bools on1⟩), (43, ⟨bS, sS, s0, ints .i32 st⟩), (44, ⟨bD1, sD1, m2, ints .i32 fo1⟩)]) (fun (x : Int × Int × Int × Int) => match x with | (i, x, ct, z) => 0 ≤ i ∧ i ≤ ((m2 - m : Nat) : Int) ∧ ct = sumF (fun j => if fo1 ((m : Int) + j) < tx then 1 else 0) i.toNat ∧ z = sumF (fun j => 1 + (f (fo1 ((m : Int) + j) + 1) - f (fo1 ((m : Int) + j)))) i.toNat ∧ Lub x (Ctr f o cl al comp1 K fo1 m i)) (fun (x : Int × Int × Int × Int) => match x with | (i, x, ct, z) => (((m2 - m : Nat) : Int) - i).toNat) (0, 0, 0, 0) ?_ ?_ ?_ ?_
  · exact ⟨by omega, by omega, rfl, rfl, Lub.zero fun q hq => by obtain ⟨j, h0, h1, _⟩ := hq; omega⟩
  · exact ⟨rfl, rfl, rfl, rfl, rfl, rfl, rfl, rfl, rfl, rfl, rfl, rfl, trivial⟩
  · exact ⟨rfl, rfl, rfl, rfl, rfl, rfl, rfl, rfl, rfl, rfl, rfl, rfl, rfl, rfl, rfl, trivial⟩
  rintro ⟨i, x, ct, z⟩ ⟨hi0, hi1, hct, hz, hx⟩
  show C _ _ _ _ _ _ [(0, .pointer (some ⟨bP, 0, none⟩)), (1, .int .i32 c), (2, .int .i32 u), (6, .int .i32 (K : Int)), (7, .int .i64 (m : Int)), (11, .pointer (some ⟨bA, 0, none⟩)), (88, .slice (some ⟨bD1, m, none⟩) (m2 - m) (cD1 - m)), (89, .int .i64 ((m2 - m : Nat) : Int)), (9, .int .u8 x), (10, .int .i32 ct), (12, .int .i64 z), (90, .int .i64 i)] [(30, ⟨bP, 17, 17, fl [.pointer (some ⟨bA, 0, none⟩), .int .u8 al, .int .i32 tx, .slice aC n cC, vMem, .slice aB K cB, .slice aE K cE, .slice aX K cX, .slice aT K cT, .slice aZ K cZ, .slice aW K cW, vIdx, vLow, .slice aN n cN, .slice (some ⟨bS, 0, none⟩) t cS, vCalls, .slice (some ⟨bD1, 0, none⟩) m2 cD1]⟩), (31, ⟨bA, 3, 3, fl [.slice aF nf cF, .slice aO no cO, .slice aL no cL]⟩), (32, ⟨bF, sF, nf, ints .i32 f⟩), (33, ⟨bO, sO, no, ints .i32 o⟩), (34, ⟨bL, sL, no, ints .u8 cl⟩), (35, ⟨bC, sC, n, ints .i32 comp1⟩), (36, ⟨bB, sB, K, ints .i32 beg⟩), (37, ⟨bE, sE, K, ints .i32 en⟩), (38, ⟨bX, sX, K, ints .u8 cls⟩), (39, ⟨bT, sT, K, ints .i32 cnt⟩), (40, ⟨bZ, sZ, K, ints .i64 siz⟩), (41, ⟨bW, sW, K, ints .i64 spt⟩), (42, ⟨bN, sN, n, bools on1⟩), (43, ⟨bS, sS, s0, ints .i32 st⟩), (44, ⟨bD1, sD1, m2, ints .i32 fo1⟩)]
  have hctb : 0 ≤ ct ∧ ct ≤ i := by
    have := sumF_bound (h := fun j => if fo1 ((m : Int) + j) < tx then 1 else 0) (lo := 0) (hi := 1) (n := i.toNat) (fun j _ _ => by constructor <;> split <;> omega)
    rw [← hct] at this
    omega
  have hzb : 0 ≤ z ∧ z ≤ i * 1048577 := by
    have := sumF_bound (h := fun j => 1 + (f (fo1 ((m : Int) + j) + 1) - f (fo1 ((m : Int) + j)))) (lo := 0) (hi := 1048577) (n := i.toNat) (fun j h0 h1 => by
      have hq := hnode2 j h0 (by omega)
      have q1 := adj_bounds hadj hq.1 (by omega)
      have q2 := adj_bounds hadj (show (0 : Int) ≤ fo1 ((m : Int) + j) + 1 by omega) (by omega)
      have q3 := hadj.2.2.1 (fo1 ((m : Int) + j)) hq.1 (by omega)
      omega)
    rw [← hz] at this
    omega
  refine C_seq ?_
  refine C_region ?_
  refine W_lss V_w0 rfl rfl rfl (fun h91 => ?_) (fun h91 => ?_)
  ·
    refine V_nil (X_next ?_)
    refine C_seq ?_
    refine C_true rfl ?_
    refine C_skip (X_next ?_)
    have hnd2 := hnode2 i hi0 (by omega)
    have hfb := adj_bounds hadj hnd2.1 (by omega)
    have hfb1 := adj_bounds hadj (show (0 : Int) ≤ fo1 ((m : Int) + i) + 1 by omega) (by omega)
    have hmono := hadj.2.2.1 (fo1 ((m : Int) + i)) hnd2.1 (by omega)
    refine C_cut (T := Int × Int) (fun (x : Int × Int) => match x with | (x2, ct1) => [(0, .pointer (some ⟨bP, 0, none⟩)), (1, .int .i32 c), (2, .int .i32 u), (6, .int .i32 (K : Int)), (7, .int .i64 (m : Int)), (11, .pointer (some ⟨bA, 0, none⟩)), (88, .slice (some ⟨bD1, m, none⟩) (m2 - m) (cD1 - m)), (89, .int .i64 ((m2 - m : Nat) : Int)), (9, .int .u8 x2), (10, .int .i32 ct1), (12, .int .i64 (z + (1 + (f (fo1 ((m : Int) + i) + 1) - f (fo1 ((m : Int) + i)))))), (90, .int .i64 i)]) (fun (x : Int × Int) => match x with | (x2, ct1) => [(30, ⟨bP, 17, 17, fl [.pointer (some ⟨bA, 0, none⟩), .int .u8 al, .int .i32 tx, .slice aC n cC, vMem, .slice aB K cB, .slice aE K cE, .slice aX K cX, .slice aT K cT, .slice aZ K cZ, .slice aW K cW, vIdx, vLow, .slice aN n cN, .slice (some ⟨bS, 0, none⟩) t cS, vCalls, .slice (some ⟨bD1, 0, none⟩) m2 cD1]⟩), (31, ⟨bA, 3, 3, fl [.slice aF nf cF, .slice aO no cO, .slice aL no cL]⟩), (32, ⟨bF, sF, nf, ints .i32 f⟩), (33, ⟨bO, sO, no, ints .i32 o⟩), (34, ⟨bL, sL, no, ints .u8 cl⟩), (35, ⟨bC, sC, n, ints .i32 comp1⟩), (36, ⟨bB, sB, K, ints .i32 beg⟩), (37, ⟨bE, sE, K, ints .i32 en⟩), (38, ⟨bX, sX, K, ints .u8 cls⟩), (39, ⟨bT, sT, K, ints .i32 cnt⟩), (40, ⟨bZ, sZ, K, ints .i64 siz⟩), (41, ⟨bW, sW, K, ints .i64 spt⟩), (42, ⟨bN, sN, n, bools on1⟩), (43, ⟨bS, sS, s0, ints .i32 st⟩), (44, ⟨bD1, sD1, m2, ints .i32 fo1⟩)]) (fun (x : Int × Int) => match x with | (x2, ct1) => Lub x2 (Ctr f o cl al comp1 K fo1 m (i + 1)) ∧ ct1 = ct + (if fo1 ((m : Int) + i) < tx then 1 else 0)) ?_ ?_
    ·
      refine C_block ?_
      refine C_seq ?_
      refine C_region ?_
      refine W_elem V_w0 rfl rfl (Rd_from (q := 44) rfl (by omega)) (by omega) (by omega) sl22 lf21 rfl rfl (fun _ => ?_)
      refine V_w0.q (QY_assign rfl) rfl ?_
      refine V_nil (X_next ?_)
      refine C_cut (T := Int) (fun (ct1 : Int) => [(0, .pointer (some ⟨bP, 0, none⟩)), (1, .int .i32 c), (2, .int .i32 u), (6, .int .i32 (K : Int)), (7, .int .i64 (m : Int)), (11, .pointer (some ⟨bA, 0, none⟩)), (88, .slice (some ⟨bD1, m, none⟩) (m2 - m) (cD1 - m)), (89, .int .i64 ((m2 - m : Nat) : Int)), (9, .int .u8 x), (10, .int .i32 ct1), (12, .int .i64 z), (14, .int .i32 (fo1 ((m : Int) + i))), (90, .int .i64 i)]) (fun (ct1 : Int) => [(30, ⟨bP, 17, 17, fl [.pointer (some ⟨bA, 0, none⟩), .int .u8 al, .int .i32 tx, .slice aC n cC, vMem, .slice aB K cB, .slice aE K cE, .slice aX K cX, .slice aT K cT, .slice aZ K cZ, .slice aW K cW, vIdx, vLow, .slice aN n cN, .slice (some ⟨bS, 0, none⟩) t cS, vCalls, .slice (some ⟨bD1, 0, none⟩) m2 cD1]⟩), (31, ⟨bA, 3, 3, fl [.slice aF nf cF, .slice aO no cO, .slice aL no cL]⟩), (32, ⟨bF, sF, nf, ints .i32 f⟩), (33, ⟨bO, sO, no, ints .i32 o⟩), (34, ⟨bL, sL, no, ints .u8 cl⟩), (35, ⟨bC, sC, n, ints .i32 comp1⟩), (36, ⟨bB, sB, K, ints .i32 beg⟩), (37, ⟨bE, sE, K, ints .i32 en⟩), (38, ⟨bX, sX, K, ints .u8 cls⟩), (39, ⟨bT, sT, K, ints .i32 cnt⟩), (40, ⟨bZ, sZ, K, ints .i64 siz⟩), (41, ⟨bW, sW, K, ints .i64 spt⟩), (42, ⟨bN, sN, n, bools on1⟩), (43, ⟨bS, sS, s0, ints .i32 st⟩), (44, ⟨bD1, sD1, m2, ints .i32 fo1⟩)]) (fun (ct1 : Int) => ct1 = ct + (if fo1 ((m : Int) + i) < tx then 1 else 0)) ?_ ?_
      ·
        refine C_seq ?_
        refine C_region ?_
        refine V_w0.q (QY_move rfl) rfl ?_
        refine V_w0.q (QY_move rfl) rfl ?_
        refine W_fld V_w0 (q := 30) rfl rfl fa61_2 lf21 (by decide) rfl rfl rfl rfl ?_
        refine W_lss V_w0 rfl rfl rfl (fun h99 => ?_) (fun h99 => ?_)
        ·
          refine V_nil (X_next ?_)
          refine C_true rfl ?_
          refine C_region ?_
          refine V_w0.q (QY_move rfl) rfl ?_
          refine V_w0.q (QY_arith rfl rfl rfl ⟨by omega, by omega⟩) rfl ?_
          refine V_w0.q (QY_assign rfl) rfl ?_
          refine V_nil (X_then ?_)
          refine X_cut (ct + 1) ?_ ?_ ?_
          · show _ = _
            rw [if_pos h99]
          · exact ⟨rfl, rfl, rfl, rfl, rfl, rfl, rfl, rfl, rfl, rfl, rfl, rfl, rfl, trivial⟩
          · exact ⟨rfl, rfl, rfl, rfl, rfl, rfl, rfl, rfl, rfl, rfl, rfl, rfl, rfl, rfl, rfl, trivial⟩
        ·
          refine V_nil (X_next ?_)
          refine C_false rfl ?_
          refine C_skip (X_then ?_)
          refine X_cut ct ?_ ?_ ?_
          · show _ = _
            rw [if_neg h99]; omega
          · exact ⟨rfl, rfl, rfl, rfl, rfl, rfl, rfl, rfl, rfl, rfl, rfl, rfl, rfl, trivial⟩
          · exact ⟨rfl, rfl, rfl, rfl, rfl, rfl, rfl, rfl, rfl, rfl, rfl, rfl, rfl, rfl, rfl, trivial⟩
      rintro ct1 hct1
      show C _ _ _ _ _ _ [(0, .pointer (some ⟨bP, 0, none⟩)), (1, .int .i32 c), (2, .int .i32 u), (6, .int .i32 (K : Int)), (7, .int .i64 (m : Int)), (11, .pointer (some ⟨bA, 0, none⟩)), (88, .slice (some ⟨bD1, m, none⟩) (m2 - m) (cD1 - m)), (89, .int .i64 ((m2 - m : Nat) : Int)), (9, .int .u8 x), (10, .int .i32 ct1), (12, .int .i64 z), (14, .int .i32 (fo1 ((m : Int) + i))), (90, .int .i64 i)] [(30, ⟨bP, 17, 17, fl [.pointer (some ⟨bA, 0, none⟩), .int .u8 al, .int .i32 tx, .slice aC n cC, vMem, .slice aB K cB, .slice aE K cE, .slice aX K cX, .slice aT K cT, .slice aZ K cZ, .slice aW K cW, vIdx, vLow, .slice aN n cN, .slice (some ⟨bS, 0, none⟩) t cS, vCalls, .slice (some ⟨bD1, 0, none⟩) m2 cD1]⟩), (31, ⟨bA, 3, 3, fl [.slice aF nf cF, .slice aO no cO, .slice aL no cL]⟩), (32, ⟨bF, sF, nf, ints .i32 f⟩), (33, ⟨bO, sO, no, ints .i32 o⟩), (34, ⟨bL, sL, no, ints .u8 cl⟩), (35, ⟨bC, sC, n, ints .i32 comp1⟩), (36, ⟨bB, sB, K, ints .i32 beg⟩), (37, ⟨bE, sE, K, ints .i32 en⟩), (38, ⟨bX, sX, K, ints .u8 cls⟩), (39, ⟨bT, sT, K, ints .i32 cnt⟩), (40, ⟨bZ, sZ, K, ints .i64 siz⟩), (41, ⟨bW, sW, K, ints .i64 spt⟩), (42, ⟨bN, sN, n, bools on1⟩), (43, ⟨bS, sS, s0, ints .i32 st⟩), (44, ⟨bD1, sD1, m2, ints .i32 fo1⟩)]
      refine C_seq ?_
      refine C_draw mix (by kernel_rfl) ?_
      refine S_w0.q (QY_move rfl) rfl ?_
      refine S_w0.q (QY_move rfl) rfl ?_
      refine W_fld S_w0 (q := 31) rfl rfl fa57_0 lf22 (by decide) rfl rfl rfl rfl ?_
      refine S_w0.q (QY_move rfl) rfl ?_
      refine S_w0.q (QY_arith rfl rfl rfl ⟨by omega, by omega⟩) rfl ?_
      refine W_elem S_w0 rfl rfl (Rd_sl (q := 32) rfl hF (by omega)) (by omega) (by omega) sl22 lf21 rfl rfl (fun _ => ?_)
      refine S_w0.q (QY_move rfl) rfl ?_
      refine W_fld S_w0 (q := 31) rfl rfl fa57_0 lf22 (by decide) rfl rfl rfl rfl ?_
      refine S_w0.q (QY_move rfl) rfl ?_
      refine W_elem S_w0 rfl rfl (Rd_sl (q := 32) rfl hF (by omega)) (by omega) (by omega) sl22 lf21 rfl rfl (fun _ => ?_)
      refine S_w0.q (QY_arith rfl rfl rfl ⟨by omega, by omega⟩) rfl ?_
      refine S_w0.q (QY_conv it21 it3 rfl ⟨by omega, by omega⟩) rfl ?_
      refine S_w0.q (QY_arith rfl rfl rfl ⟨by omega, by omega⟩) rfl ?_
      refine S_w0.q (QY_arith rfl rfl rfl ⟨by omega, by omega⟩) rfl ?_
      refine S_w0.q (QY_assign rfl) rfl ?_
      refine S_nil (X_next ?_)
      refine C_seq ?_
      refine C_region ?_
      refine V_w0.q (QY_move rfl) rfl ?_
      refine W_fld V_w0 (q := 31) rfl rfl fa57_0 lf22 (by decide) rfl rfl rfl rfl ?_
      refine V_w0.q (QY_move rfl) rfl ?_
      refine W_elem V_w0 rfl rfl (Rd_sl (q := 32) rfl hF (by omega)) (by omega) (by omega) sl22 lf21 rfl rfl (fun _ => ?_)
      refine V_w0.q (QY_assign rfl) rfl ?_
      refine V_nil (X_next ?_)
      refine C_block ?_
      refine C_loops (T := Int × Int) (fun (x : Int × Int) => match x with | (e, x) => [(0, .pointer (some ⟨bP, 0, none⟩)), (1, .int .i32 c), (2, .int .i32 u), (6, .int .i32 (K : Int)), (7, .int .i64 (m : Int)), (11, .pointer (some ⟨bA, 0, none⟩)), (88, .slice (some ⟨bD1, m, none⟩) (m2 - m) (cD1 - m)), (89, .int .i64 ((m2 - m : Nat) : Int)), (9, .int .u8 x), (10, .int .i32 ct1), (12, .int .i64 (z + (1 + (f (fo1 ((m : Int) + i) + 1) - f (fo1 ((m : Int) + i)))))), (15, .int .i32 e), (14, .int .i32 (fo1 ((m : Int) + i))), (90, .int .i64 i)]) (fun (x : Int × Int) => match x with | (e, x) => [(30, ⟨bP, 17, 17, fl [.pointer (some ⟨bA, 0, none⟩), .int .u8 al, .int .i32 tx, .slice aC n cC, vMem, .slice aB K cB, .slice aE K cE, .slice aX K cX, .slice aT K cT, .slice aZ K cZ, .slice aW K cW, vIdx, vLow, .slice aN n cN, .slice (some ⟨bS, 0, none⟩) t cS, vCalls, .slice (some ⟨bD1, 0, none⟩) m2 cD1]⟩), (31, ⟨bA, 3, 3, fl [.slice aF nf cF, .slice aO no cO, .slice aL no cL]⟩), (32, ⟨bF, sF, nf, ints .i32 f⟩), (33, ⟨bO, sO, no, ints .i32 o⟩), (34, ⟨bL, sL, no, ints .u8 cl⟩), (35, ⟨bC, sC, n, ints .i32 comp1⟩), (36, ⟨bB, sB, K, ints .i32 beg⟩), (37, ⟨bE, sE, K, ints .i32 en⟩), (38, ⟨bX, sX, K, ints .u8 cls⟩), (39, ⟨bT, sT, K, ints .i32 cnt⟩), (40, ⟨bZ, sZ, K, ints .i64 siz⟩), (41, ⟨bW, sW, K, ints .i64 spt⟩), (42, ⟨bN, sN, n, bools on1⟩), (43, ⟨bS, sS, s0, ints .i32 st⟩), (44, ⟨bD1, sD1, m2, ints .i32 fo1⟩)]) (fun (x : Int × Int) => match x with | (e, x) => f (fo1 ((m : Int) + i)) ≤ e ∧ e ≤ f (fo1 ((m : Int) + i) + 1) ∧ Lub x (fun q => Ctr f o cl al comp1 K fo1 m i q ∨ Edg f o cl al comp1 K (fo1 ((m : Int) + i)) e q)) (fun (x : Int × Int) => match x with | (e, x) => (f (fo1 ((m : Int) + i) + 1) - e).toNat) (f (fo1 ((m : Int) + i)), x) ?_ ?_ ?_ ?_
      · exact ⟨Int.le_refl _, hmono, hx.same fun q => ⟨.inl, fun h => h.resolve_right fun ⟨e, h0, h1, _⟩ => by omega⟩⟩
      · exact ⟨rfl, rfl, rfl, rfl, rfl, rfl, rfl, rfl, rfl, rfl, rfl, rfl, rfl, rfl, trivial⟩
      · exact ⟨rfl, rfl, rfl, rfl, rfl, rfl, rfl, rfl, rfl, rfl, rfl, rfl, rfl, rfl, rfl, trivial⟩
      rintro ⟨e, x⟩ ⟨he0, he1, hx⟩
      show C _ _ _ _ _ _ [(0, .pointer (some ⟨bP, 0, none⟩)), (1, .int .i32 c), (2, .int .i32 u), (6, .int .i32 (K : Int)), (7, .int .i64 (m : Int)), (11, .pointer (some ⟨bA, 0, none⟩)), (88, .slice (some ⟨bD1, m, none⟩) (m2 - m) (cD1 - m)), (89, .int .i64 ((m2 - m : Nat) : Int)), (9, .int .u8 x), (10, .int .i32 ct1), (12, .int .i64 (z + (1 + (f (fo1 ((m : Int) + i) + 1) - f (fo1 ((m : Int) + i)))))), (15, .int .i32 e), (14, .int .i32 (fo1 ((m : Int) + i))), (90, .int .i64 i)] [(30, ⟨bP, 17, 17, fl [.pointer (some ⟨bA, 0, none⟩), .int .u8 al, .int .i32 tx, .slice aC n cC, vMem, .slice aB K cB, .slice aE K cE, .slice aX K cX, .slice aT K cT, .slice aZ K cZ, .slice aW K cW, vIdx, vLow, .slice aN n cN, .slice (some ⟨bS, 0, none⟩) t cS, vCalls, .slice (some ⟨bD1, 0, none⟩) m2 cD1]⟩), (31, ⟨bA, 3, 3, fl [.slice aF nf cF, .slice aO no cO, .slice aL no cL]⟩), (32, ⟨bF, sF, nf, ints .i32 f⟩), (33, ⟨bO, sO, no, ints .i32 o⟩), (34, ⟨bL, sL, no, ints .u8 cl⟩), (35, ⟨bC, sC, n, ints .i32 comp1⟩), (36, ⟨bB, sB, K, ints .i32 beg⟩), (37, ⟨bE, sE, K, ints .i32 en⟩), (38, ⟨bX, sX, K, ints .u8 cls⟩), (39, ⟨bT, sT, K, ints .i32 cnt⟩), (40, ⟨bZ, sZ, K, ints .i64 siz⟩), (41, ⟨bW, sW, K, ints .i64 spt⟩), (42, ⟨bN, sN, n, bools on1⟩), (43, ⟨bS, sS, s0, ints .i32 st⟩), (44, ⟨bD1, sD1, m2, ints .i32 fo1⟩)]
      refine C_seq ?_
      refine C_seq ?_
      refine C_region ?_
      refine V_w0.q (QY_move rfl) rfl ?_
      refine V_w0.q (QY_move rfl) rfl ?_
      refine W_fld V_w0 (q := 31) rfl rfl fa57_0 lf22 (by decide) rfl rfl rfl rfl ?_
      refine V_w0.q (QY_move rfl) rfl ?_
      refine V_w0.q (QY_arith rfl rfl rfl ⟨by omega, by omega⟩) rfl ?_
      refine W_elem V_w0 rfl rfl (Rd_sl (q := 32) rfl hF (by omega)) (by omega) (by omega) sl22 lf21 rfl rfl (fun _ => ?_)
      refine W_lss V_w0 rfl rfl rfl (fun h138 => ?_) (fun h138 => ?_)
      ·
        refine V_nil (X_next ?_)
        refine C_true rfl ?_
        refine C_skip (X_next ?_)
        refine C_cut (T := Int) (fun (x1 : Int) => [(0, .pointer (some ⟨bP, 0, none⟩)), (1, .int .i32 c), (2, .int .i32 u), (6, .int .i32 (K : Int)), (7, .int .i64 (m : Int)), (11, .pointer (some ⟨bA, 0, none⟩)), (88, .slice (some ⟨bD1, m, none⟩) (m2 - m) (cD1 - m)), (89, .int .i64 ((m2 - m : Nat) : Int)), (9, .int .u8 x1), (10, .int .i32 ct1), (12, .int .i64 (z + (1 + (f (fo1 ((m : Int) + i) + 1) - f (fo1 ((m : Int) + i)))))), (15, .int .i32 e), (14, .int .i32 (fo1 ((m : Int) + i))), (90, .int .i64 i)]) (fun (x1 : Int) => [(30, ⟨bP, 17, 17, fl [.pointer (some ⟨bA, 0, none⟩), .int .u8 al, .int .i32 tx, .slice aC n cC, vMem, .slice aB K cB, .slice aE K cE, .slice aX K cX, .slice aT K cT, .slice aZ K cZ, .slice aW K cW, vIdx, vLow, .slice aN n cN, .slice (some ⟨bS, 0, none⟩) t cS, vCalls, .slice (some ⟨bD1, 0, none⟩) m2 cD1]⟩), (31, ⟨bA, 3, 3, fl [.slice aF nf cF, .slice aO no cO, .slice aL no cL]⟩), (32, ⟨bF, sF, nf, ints .i32 f⟩), (33, ⟨bO, sO, no, ints .i32 o⟩), (34, ⟨bL, sL, no, ints .u8 cl⟩), (35, ⟨bC, sC, n, ints .i32 comp1⟩), (36, ⟨bB, sB, K, ints .i32 beg⟩), (37, ⟨bE, sE, K, ints .i32 en⟩), (38, ⟨bX, sX, K, ints .u8 cls⟩), (39, ⟨bT, sT, K, ints .i32 cnt⟩), (40, ⟨bZ, sZ, K, ints .i64 siz⟩), (41, ⟨bW, sW, K, ints .i64 spt⟩), (42, ⟨bN, sN, n, bools on1⟩), (43, ⟨bS, sS, s0, ints .i32 st⟩), (44, ⟨bD1, sD1, m2, ints .i32 fo1⟩)]) (fun (x1 : Int) => Lub x1 (fun q => Ctr f o cl al comp1 K fo1 m i q ∨ Edg f o cl al comp1 K (fo1 ((m : Int) + i)) (e + 1) q)) ?_ ?_
        ·
          refine C_block ?_
          refine C_seq ?_
          refine C_draw mix (by kernel_rfl) ?_
          refine S_w0.q (QY_move rfl) rfl ?_
          refine W_fld S_w0 (q := 30) rfl rfl fa61_3 lf22 (by decide) rfl rfl rfl rfl ?_
          refine S_w0.q (QY_move rfl) rfl ?_
          refine W_fld S_w0 (q := 31) rfl rfl fa57_1 lf22 (by decide) rfl rfl rfl rfl ?_
          refine S_w0.q (QY_move rfl) rfl ?_
          refine W_elem S_w0 rfl rfl (Rd_sl (q := 33) rfl hO (by omega)) (by omega) (by omega) sl22 lf21 rfl rfl (fun _ => ?_)
          have hoe := hadj.2.2.2.2.2 e (by omega) (by omega)
          refine W_elem S_w0 rfl rfl (Rd_sl (q := 35) rfl hC (by omega)) (by omega) (by omega) sl22 lf21 rfl rfl (fun _ => ?_)
          refine S_w0.q (QY_move rfl) rfl ?_
          refine W_eql S_w0 rfl rfl rfl (fun h155 => ?_) (fun h155 => ?_)
          ·
            refine S_nil (X_next ?_)
            refine C_true rfl ?_
            refine C_draw mix (by kernel_rfl) ?_
            refine S_w0.q (QY_move rfl) rfl ?_
            refine S_w0.q (QY_move rfl) rfl ?_
            refine W_fld S_w0 (q := 31) rfl rfl fa57_2 lf54 (by decide) rfl rfl rfl rfl ?_
            refine S_w0.q (QY_move rfl) rfl ?_
            refine W_elem S_w0 rfl rfl (Rd_sl (q := 34) rfl hL (by omega)) (by omega) (by omega) sl54 lf58 rfl rfl (fun _ => ?_)
            refine S_w0.q (QY_move rfl) rfl ?_
            refine W_fld S_w0 (q := 30) rfl rfl fa61_1 lf58 (by decide) rfl rfl rfl rfl ?_
            refine S_w0.q (QY_and rfl rfl) rfl ?_
            refine S_w0.q (QY_or rfl rfl) rfl ?_
            refine S_w0.q (QY_assign rfl) rfl ?_
            refine S_nil (X_block (X_then ?_))
            refine X_cut (bor x (band (cl e) al)) ?_ ?_ ?_
            · exact Lub.add hx _ (edg_yes (by omega) h155)
            · exact ⟨rfl, rfl, rfl, rfl, rfl, rfl, rfl, rfl, rfl, rfl, rfl, rfl, rfl, rfl, trivial⟩
            · exact ⟨rfl, rfl, rfl, rfl, rfl, rfl, rfl, rfl, rfl, rfl, rfl, rfl, rfl, rfl, rfl, trivial⟩
          ·
            refine S_nil (X_next ?_)
            refine C_false rfl ?_
            refine C_skip (X_block (X_then ?_))
            refine X_cut x ?_ ?_ ?_
            · exact Lub.same hx (edg_no h155)
            · exact ⟨rfl, rfl, rfl, rfl, rfl, rfl, rfl, rfl, rfl, rfl, rfl, rfl, rfl, rfl, trivial⟩
            · exact ⟨rfl, rfl, rfl, rfl, rfl, rfl, rfl, rfl, rfl, rfl, rfl, rfl, rfl, rfl, rfl, trivial⟩
        rintro x1 hx1
        show C _ _ _ _ _ _ [(0, .pointer (some ⟨bP, 0, none⟩)), (1, .int .i32 c), (2, .int .i32 u), (6, .int .i32 (K : Int)), (7, .int .i64 (m : Int)), (11, .pointer (some ⟨bA, 0, none⟩)), (88, .slice (some ⟨bD1, m, none⟩) (m2 - m) (cD1 - m)), (89, .int .i64 ((m2 - m : Nat) : Int)), (9, .int .u8 x1), (10, .int .i32 ct1), (12, .int .i64 (z + (1 + (f (fo1 ((m : Int) + i) + 1) - f (fo1 ((m : Int) + i)))))), (15, .int .i32 e), (14, .int .i32 (fo1 ((m : Int) + i))), (90, .int .i64 i)] [(30, ⟨bP, 17, 17, fl [.pointer (some ⟨bA, 0, none⟩), .int .u8 al, .int .i32 tx, .slice aC n cC, vMem, .slice aB K cB, .slice aE K cE, .slice aX K cX, .slice aT K cT, .slice aZ K cZ, .slice aW K cW, vIdx, vLow, .slice aN n cN, .slice (some ⟨bS, 0, none⟩) t cS, vCalls, .slice (some ⟨bD1, 0, none⟩) m2 cD1]⟩), (31, ⟨bA, 3, 3, fl [.slice aF nf cF, .slice aO no cO, .slice aL no cL]⟩), (32, ⟨bF, sF, nf, ints .i32 f⟩), (33, ⟨bO, sO, no, ints .i32 o⟩), (34, ⟨bL, sL, no, ints .u8 cl⟩), (35, ⟨bC, sC, n, ints .i32 comp1⟩), (36, ⟨bB, sB, K, ints .i32 beg⟩), (37, ⟨bE, sE, K, ints .i32 en⟩), (38, ⟨bX, sX, K, ints .u8 cls⟩), (39, ⟨bT, sT, K, ints .i32 cnt⟩), (40, ⟨bZ, sZ, K, ints .i64 siz⟩), (41, ⟨bW, sW, K, ints .i64 spt⟩), (42, ⟨bN, sN, n, bools on1⟩), (43, ⟨bS, sS, s0, ints .i32 st⟩), (44, ⟨bD1, sD1, m2, ints .i32 fo1⟩)]
        refine C_region ?_
        refine V_w0.q (QY_move rfl) rfl ?_
        refine V_w0.q (QY_arith rfl rfl rfl ⟨by omega, by omega⟩) rfl ?_
        refine V_w0.q (QY_assign rfl) rfl ?_
        refine V_nil (X_then ?_)
        refine X_round (e + 1, x1) ?_ ?_ ?_ ?_
        · exact ⟨by omega, by omega, hx1⟩
        · show (f (fo1 ((m : Int) + i) + 1) - (e + 1)).toNat < (f (fo1 ((m : Int) + i) + 1) - e).toNat
          omega
        · exact ⟨rfl, rfl, rfl, rfl, rfl, rfl, rfl, rfl, rfl, rfl, rfl, rfl, rfl, rfl, trivial⟩
        · exact ⟨rfl, rfl, rfl, rfl, rfl, rfl, rfl, rfl, rfl, rfl, rfl, rfl, rfl, rfl, rfl, trivial⟩
      ·
        refine V_nil (X_next ?_)
        refine C_false rfl ?_
        refine C_exit (X_then_exit (X_then_exit (X_block_exit (X_block (X_then ?_)))))
        refine X_cut (x, ct1) ?_ ?_ ?_
        · exact ⟨ctr_next hi0 (by omega) hx, hct1⟩
        · exact ⟨rfl, rfl, rfl, rfl, rfl, rfl, rfl, rfl, rfl, rfl, rfl, rfl, trivial⟩
        · exact ⟨rfl, rfl, rfl, rfl, rfl, rfl, rfl, rfl, rfl, rfl, rfl, rfl, rfl, rfl, rfl, trivial⟩
    rintro ⟨x2, ct1⟩ ⟨hxe, hct1⟩
    show C _ _ _ _ _ _ [(0, .pointer (some ⟨bP, 0, none⟩)), (1, .int .i32 c), (2, .int .i32 u), (6, .int .i32 (K : Int)), (7, .int .i64 (m : Int)), (11, .pointer (some ⟨bA, 0, none⟩)), (88, .slice (some ⟨bD1, m, none⟩) (m2 - m) (cD1 - m)), (89, .int .i64 ((m2 - m : Nat) : Int)), (9, .int .u8 x2), (10, .int .i32 ct1), (12, .int .i64 (z + (1 + (f (fo1 ((m : Int) + i) + 1) - f (fo1 ((m : Int) + i)))))), (90, .int .i64 i)] [(30, ⟨bP, 17, 17, fl [.pointer (some ⟨bA, 0, none⟩), .int .u8 al, .int .i32 tx, .slice aC n cC, vMem, .slice aB K cB, .slice aE K cE, .slice aX K cX, .slice aT K cT, .slice aZ K cZ, .slice aW K cW, vIdx, vLow, .slice aN n cN, .slice (some ⟨bS, 0, none⟩) t cS, vCalls, .slice (some ⟨bD1, 0, none⟩) m2 cD1]⟩), (31, ⟨bA, 3, 3, fl [.slice aF nf cF, .slice aO no cO, .slice aL no cL]⟩), (32, ⟨bF, sF, nf, ints .i32 f⟩), (33, ⟨bO, sO, no, ints .i32 o⟩), (34, ⟨bL, sL, no, ints .u8 cl⟩), (35, ⟨bC, sC, n, ints .i32 comp1⟩), (36, ⟨bB, sB, K, ints .i32 beg⟩), (37, ⟨bE, sE, K, ints .i32 en⟩), (38, ⟨bX, sX, K, ints .u8 cls⟩), (39, ⟨bT, sT, K, ints .i32 cnt⟩), (40, ⟨bZ, sZ, K, ints .i64 siz⟩), (41, ⟨bW, sW, K, ints .i64 spt⟩), (42, ⟨bN, sN, n, bools on1⟩), (43, ⟨bS, sS, s0, ints .i32 st⟩), (44, ⟨bD1, sD1, m2, ints .i32 fo1⟩)]
    refine C_region ?_
    refine V_w0.q (QY_arith rfl rfl rfl ⟨by omega, by omega⟩) rfl ?_
    refine V_w0.q (QY_move rfl) rfl ?_
    refine V_nil (X_then ?_)
    refine X_round (i + 1, x2, ct1, (z + (1 + (f (fo1 ((m : Int) + i) + 1) - f (fo1 ((m : Int) + i)))))) ?_ ?_ ?_ ?_
    · refine ⟨by omega, by omega, ?_, ?_, hxe⟩
      · rw [show (i + 1).toNat = i.toNat + 1 from by omega, sumF, show ((i.toNat : Nat) : Int) = i from by omega, ← hct]
        exact hct1
      · rw [show (i + 1).toNat = i.toNat + 1 from by omega, sumF, show ((i.toNat : Nat) : Int) = i from by omega, ← hz]
    · show (((m2 - m : Nat) : Int) - (i + 1)).toNat < (((m2 - m : Nat) : Int) - i).toNat
      omega
    · exact ⟨rfl, rfl, rfl, rfl, rfl, rfl, rfl, rfl, rfl, rfl, rfl, rfl, trivial⟩
    · exact ⟨rfl, rfl, rfl, rfl, rfl, rfl, rfl, rfl, rfl, rfl, rfl, rfl, rfl, rfl, rfl, trivial⟩
  ·
    refine V_nil (X_next ?_)
    refine C_seq ?_
    refine C_false rfl ?_
    refine C_exit (X_then_exit (X_then_exit (X_block_exit (X_next ?_))))
    refine C_seq ?_
    refine C_draws 17 15 mix (by kernel_rfl) ?_
    refine T_w0.q (QY_move rfl) rfl ?_
    refine T_w0.q (QY_move rfl) rfl ?_
    refine W_fld T_w0 (q := 30) rfl rfl fa61_5 lf22 (by decide) rfl rfl rfl rfl ?_
    refine T_w0.q (QY_move rfl) rfl ?_
    refine W_fld T_w0 (q := 30) rfl rfl fa61_5 lf22 (by decide) rfl rfl rfl rfl ?_
    refine T_w0.q (QY_move rfl) rfl ?_
    refine W_elem T_w0 rfl rfl (gB.rd (q := 36) rfl (by omega)) (by omega) (by omega) sl22 lf21 rfl rfl (fun _ => ?_)
    refine T_w0.q (QY_move rfl) rfl ?_
    refine T_w0.q (QY_conv it3 it21 rfl ⟨by omega, by omega⟩) rfl ?_
    refine T_w0.q (QY_arith rfl rfl rfl ⟨by omega, by omega⟩) rfl ?_
    refine T_app (q := 36) rfl rfl mk22 rfl rfl (fun _ => rfl) gB rfl rfl (by omega) (by omega) rfl rfl (upd_ints _ _ _ _) ?_
    intro _ svB bB1 sB1 hsB gB1
    obtain ⟨aB1, cB1, rfl⟩ := gB1.slice
    refine T_tail rfl rfl ?_
    refine V_fset (q := 30) rfl rfl fa61_5 lf22 (by decide) rfl rfl rfl rfl rfl ?_
    refine V_nil (X_Qn (X_next ?_))
    refine C_seq ?_
    refine C_draws 21 19 mix (by kernel_rfl) ?_
    refine T_w0.q (QY_move rfl) rfl ?_
    refine T_w0.q (QY_move rfl) rfl ?_
    refine W_fld T_w0 (q := 30) rfl rfl fa61_6 lf22 (by decide) rfl rfl rfl rfl ?_
    refine T_w0.q (QY_move rfl) rfl ?_
    refine W_fld T_w0 (q := 30) rfl rfl fa61_5 lf22 (by decide) rfl rfl rfl rfl ?_
    refine T_w0.q (QY_move rfl) rfl ?_
    refine W_elem T_w0 rfl rfl (gB1.rd (q := 36) rfl (by omega)) (by omega) (by omega) sl22 lf21 rfl rfl (fun _ => ?_)
    refine T_w0.q (QY_move rfl) rfl ?_
    refine W_fld T_w0 (q := 30) rfl rfl fa61_16 lf22 (by decide) rfl rfl rfl rfl ?_
    refine T_w0.q (QY_len sl22 rfl) rfl ?_
    have hbc : upd beg (K : Int) (beg c + (m : Int)) c = beg c := upd_other _ _ _ (by omega)
    refine T_w0.q (QY_conv it3 it21 rfl ⟨by omega, by omega⟩) rfl ?_
    refine T_w0.q (QY_arith rfl rfl rfl ⟨by omega, by omega⟩) rfl ?_
    refine T_app (q := 37) rfl rfl mk22 rfl rfl (fun _ => rfl) gE rfl rfl (by omega) (by omega) rfl rfl (upd_ints _ _ _ _) ?_
    intro _ svE bE1 sE1 hsE gE1
    obtain ⟨aE1, cE1, rfl⟩ := gE1.slice
    refine T_tail rfl rfl ?_
    refine V_fset (q := 30) rfl rfl fa61_6 lf22 (by decide) rfl rfl rfl rfl rfl ?_
    refine V_nil (X_Qn (X_next ?_))
    refine C_seq ?_
    refine C_region ?_
    refine V_w0.q (QY_move rfl) rfl ?_
    refine V_w0.q (QY_move rfl) rfl ?_
    refine W_fld V_w0 (q := 30) rfl rfl fa61_7 lf54 (by decide) rfl rfl rfl rfl ?_
    refine V_w0.q (QY_move rfl) rfl ?_
    refine V_app (q := 38) mk54 rfl rfl (fun _ => rfl) gX (by omega) rfl rfl (by omega) (by omega) rfl rfl (upd_ints _ _ _ _) ?_
    intro _ svX bX1 sX1 hsX gX1
    obtain ⟨aX1, cX1, rfl⟩ := gX1.slice
    refine V_fset (q := 30) rfl rfl fa61_7 lf54 (by decide) rfl rfl rfl rfl rfl ?_
    refine V_nil (X_next ?_)
    refine C_seq ?_
    refine C_region ?_
    refine V_w0.q (QY_move rfl) rfl ?_
    refine V_w0.q (QY_move rfl) rfl ?_
    refine W_fld V_w0 (q := 30) rfl rfl fa61_8 lf22 (by decide) rfl rfl rfl rfl ?_
    refine V_w0.q (QY_move rfl) rfl ?_
    refine V_app (q := 39) mk22 rfl rfl (fun _ => rfl) gT (by omega) rfl rfl (by omega) (by omega) rfl rfl (upd_ints _ _ _ _) ?_
    intro _ svT bT1 sT1 hsT gT1
    obtain ⟨aT1, cT1, rfl⟩ := gT1.slice
    refine V_fset (q := 30) rfl rfl fa61_8 lf22 (by decide) rfl rfl rfl rfl rfl ?_
    refine V_nil (X_next ?_)
    refine C_seq ?_
    refine C_region ?_
    refine V_w0.q (QY_move rfl) rfl ?_
    refine V_w0.q (QY_move rfl) rfl ?_
    refine W_fld V_w0 (q := 30) rfl rfl fa61_9 lf32 (by decide) rfl rfl rfl rfl ?_
    refine V_w0.q (QY_move rfl) rfl ?_
    refine V_app (q := 40) mk32 rfl rfl (fun _ => rfl) gZ (by omega) rfl rfl (by omega) (by omega) rfl rfl (upd_ints _ _ _ _) ?_
    intro _ svZ bZ1 sZ1 hsZ gZ1
    obtain ⟨aZ1, cZ1, rfl⟩ := gZ1.slice
    refine V_fset (q := 30) rfl rfl fa61_9 lf32 (by decide) rfl rfl rfl rfl rfl ?_
    refine V_nil (X_next ?_)
    refine C_region ?_
    refine V_w0.q (QY_move rfl) rfl ?_
    refine V_w0.q (QY_move rfl) rfl ?_
    refine W_fld V_w0 (q := 30) rfl rfl fa61_10 lf32 (by decide) rfl rfl rfl rfl ?_
    refine V_app (q := 41) mk32 rfl rfl (fun _ => rfl) gW (by omega) rfl rfl (by omega) (by omega) rfl rfl (upd_ints _ _ _ _) ?_
    intro _ svW bW1 sW1 hsW gW1
    obtain ⟨aW1, cW1, rfl⟩ := gW1.slice
    refine V_fset (q := 30) rfl rfl fa61_10 lf32 (by decide) rfl rfl rfl rfl rfl ?_
    refine V_nil (?_)
    refine X_end0 rfl (fun w hm => ?_)
    subst hm2
    rw [hbc] at hm gE1
    obtain rfl : i = ((m + (r - t) - m : Nat) : Int) := by omega
    exact ⟨⟨bB1, sB1, cB1, bE1, sE1, cE1, bX1, sX1, cX1, bT1, sT1, cT1, bZ1, sZ1, cZ1, bW1, sW1, cW1, bD1, sD1, cD1, aB1, aE1, aX1, aT1, aZ1, aW1, comp1, on1, fo1, x, ct, z⟩, ⟨gB1, gE1, gX1, gT1, gZ1, gW1, gD1, hpop, hfo, hfo2, hx, hct, hz⟩, rfl, hm.sub ⟨rfl, rfl, rfl, rfl, rfl, rfl, rfl, rfl, rfl, rfl, rfl, rfl, rfl, rfl, rfl, trivial⟩⟩

end Go.Proofs.Qxb6001307a
