/-
  OWN WORK. Kit I: many slices are made in an open order.
-/
import Derived.Test.Qxb6001236aKitH
namespace Go.Proofs.Qxb6001236a
open Go.RowKit
set_option linter.unusedSimpArgs false
set_option linter.unusedVariables false

/-- One of them: its place in the region, its slot, the key of its block, its length, what each cell holds. -/
structure Al where
  (i d q l : Nat) (v : Value)
def Al.sl (x : Al) (b : Nat) : Value := .slice (some ⟨b, 0, none⟩) x.l x.l
def Al.bk (x : Al) (b : Nat) : Bk := ⟨b, x.l, x.l, fun _ => x.v⟩

def AlOK (P : Program) (N : Nat) (ops : Array Oper) (L0 : List (Nat × Value)) (x : Al) : Prop :=
  ∃ o e, ops[x.i]? = some o ∧ o.guard = none ∧ o.dst = some x.d ∧ Nat.ble (x.d + 1) N = true ∧
    ∀ a w, Fr N L0 a → ∃ arr, (execOp a.eval o).run P w = .ok (.value (x.sl w.heap.size)) { w with heap := w.heap.push (.cells arr e) } ∧ arr.size = x.l ∧ ∀ j, j < x.l → arr[j]? = some x.v

def lst (m T : Nat) (ps : List Nat) : Array Bool := ((List.range m).map fun i => Nat.blt i T && !(ps.contains i)).toArray

theorem lst_get {m T : Nat} {ps : List Nat} {i : Nat} (h : i < m) : (lst m T ps)[i]? = some (Nat.blt i T && !(ps.contains i)) := by
  simp [lst, h]
theorem lst_size (m T : Nat) (ps : List Nat) : (lst m T ps).size = m := by simp [lst]
theorem lst_set {m T : Nat} {ps qs : List Nat} {i : Nat} (hi : i < T) (hm : i < m) (h : ∀ j, j ∈ qs ↔ j ∈ ps ∧ j ≠ i) : (lst m T ps).setIfInBounds i true = lst m T qs := by
  apply Array.ext
  · simp [lst]
  · intro j h1 h2
    simp only [lst, Array.size_setIfInBounds, List.size_toArray, List.length_map, List.length_range] at h1
    by_cases e : i = j
    · subst e
      have : ¬ i ∈ qs := fun hh => ((h i).1 hh).2 rfl
      simp [lst, Nat.blt, this]
      omega
    · rw [Array.getElem_setIfInBounds_ne (by simpa [lst] using h1) e]
      simp only [lst, List.getElem_toArray, List.getElem_map, List.getElem_range]
      congr 2
      rw [Bool.eq_iff_iff]
      simp only [List.contains_iff_mem, h j]
      constructor
      · intro hh; exact ⟨hh, fun e2 => e e2.symm⟩
      · intro hh; exact hh.1

def allChk (ops : Array Oper) (T : Nat) (all : List Al) : Bool :=
  all.all (fun x => Nat.blt x.i T && (match ops[x.i]? with
    | some o => o.after.all (fun e => !(Region.binds .any e) || (Nat.blt e.on T && !((all.map (·.i)).contains e.on) && Nat.blt e.on ops.size))
    | none => false)) &&
  Nat.blt T ops.size && all.all (fun x => waits ops T x.i) && (List.range ops.size).all (fun j => Nat.ble j T || waits ops j (j - 1))

theorem blt_lt {i j : Nat} : Nat.blt i j = true ↔ i < j := by
  unfold Nat.blt
  rw [Nat.ble_eq]
  exact Iff.rfl
theorem map_inj {g : Al → Nat} : ∀ {l : List Al}, (l.map g).Nodup → ∀ {x y : Al}, x ∈ l → y ∈ l → g x = g y → x = y
  | [], _, x, y, hx, _, _ => by cases hx
  | z :: r, h, x, y, hx, hy, e => by
    rw [List.map_cons, List.nodup_cons] at h
    rcases List.mem_cons.1 hx with hx | hx <;> rcases List.mem_cons.1 hy with hy | hy
    · rw [hx, hy]
    · exfalso; exact h.1 (List.mem_map.2 ⟨y, hy, by rw [← e, hx]⟩)
    · exfalso; exact h.1 (List.mem_map.2 ⟨x, hx, by rw [e, hy]⟩)
    · exact map_inj h.2 hx hy e
theorem filter_all {j : Nat} : ∀ {l : List Al}, (∀ y ∈ l, y.i ≠ j) → l.filter (fun y => !(Nat.beq y.i j)) = l
  | [], _ => rfl
  | z :: r, h => by
    have hz : Nat.beq z.i j = false := by
      cases hc : Nat.beq z.i j with
      | false => rfl
      | true => exact absurd (Nat.eq_of_beq_eq_true hc) (h z (by simp))
    rw [List.filter_cons_of_pos (by simp [hz]), filter_all fun y hy => h y (by simp [hy])]
theorem filter_len {x : Al} : ∀ {l : List Al}, (l.map (·.i)).Nodup → x ∈ l → (l.filter (fun y => !(Nat.beq y.i x.i))).length + 1 = l.length
  | [], _, hx => by cases hx
  | z :: r, h, hx => by
    rw [List.map_cons, List.nodup_cons] at h
    by_cases e : z.i = x.i
    · have hb : Nat.beq z.i x.i = true := by rw [e]; simp
      rw [List.filter_cons_of_neg (by simp [hb]), filter_all fun y hy e2 => h.1 (List.mem_map.2 ⟨y, hy, by rw [e2, e]⟩)]
      rfl
    · have hxr : x ∈ r := by
        rcases List.mem_cons.1 hx with hx | hx
        · exact absurd (by rw [hx]) e
        · exact hx
      have hb : Nat.beq z.i x.i = false := by
        cases hc : Nat.beq z.i x.i with
        | false => rfl
        | true => exact absurd (Nat.eq_of_beq_eq_true hc) e
      rw [List.filter_cons_of_pos (by simp [hb]), List.length_cons, filter_len h.2 hxr, List.length_cons]
theorem filter_nodup {j : Nat} : ∀ {l : List Al}, (l.map (·.i)).Nodup → ((l.filter (fun y => !(Nat.beq y.i j))).map (·.i)).Nodup
  | [], h => h
  | z :: r, h => by
    rw [List.map_cons, List.nodup_cons] at h
    cases hc : Nat.beq z.i j with
    | true => rw [List.filter_cons_of_neg (by simp [hc])]; exact filter_nodup h.2
    | false =>
      rw [List.filter_cons_of_pos (by simp [hc]), List.map_cons, List.nodup_cons]
      refine ⟨fun hm => h.1 ?_, filter_nodup h.2⟩
      obtain ⟨y, hy, e⟩ := List.mem_map.1 hm
      exact List.mem_map.2 ⟨y, (List.mem_filter.1 hy).1, e⟩

theorem waits_not_ready {ops : Array Oper} {listed : Array Bool} {j i : Nat} (h : waits ops j i = true) (hi : listed.getD i false = false) : j ∉ Region.ready .any ops listed := by
  intro hj
  obtain ⟨_, o, ho, hall⟩ := mem_ready.1 hj
  simp only [waits, ho] at h
  obtain ⟨e, he, hb⟩ := Array.any_eq_true'.1 h
  simp only [Bool.and_eq_true, beq_iff_eq] at hb
  have h3 := hall e he hb.1
  rw [hb.2] at h3
  rw [h3] at hi; cases hi

section
variable {P : Program} {N : Nat} {B : Nat → Prop} {w0 : World} {ops : Array Oper} {K : Act → World → Prop} {H0 : List (Nat × Bk)} {f : Nat}

theorem lk_map_all {L L0 : List (Nat × Value)} {b : Nat → Nat} (hL : ∀ t v, lk L0 t = some v → lk L t = some v) : ∀ (all : List Al), (∀ x ∈ all, lk L x.d = some (x.sl (b x.i))) → ∀ t v, lk (all.map (fun x => (x.d, x.sl (b x.i))) ++ L0) t = some v → lk L t = some v
  | [], _, t, v, h => hL t v h
  | x :: r, hx, t, v, h => by
    simp only [List.map_cons, List.cons_append, lk] at h
    cases e : Nat.beq x.d t with
    | true =>
      obtain rfl := Nat.eq_of_beq_eq_true e
      simp only [e, cond_true] at h
      rw [hx x (by simp), h]
    | false =>
      simp only [e, cond_false] at h
      exact lk_map_all hL r (fun y hy => hx y (by simp [hy])) t v h
theorem lkH_map_all {H H1 : List (Nat × Bk)} {b : Nat → Nat} (hH : ∀ t v, lkH H1 t = some v → lkH H t = some v) : ∀ (all : List Al), (∀ x ∈ all, lkH H x.q = some (x.bk (b x.i))) → ∀ t v, lkH (all.map (fun x => (x.q, x.bk (b x.i))) ++ H1) t = some v → lkH H t = some v
  | [], _, t, v, h => hH t v h
  | x :: r, hx, t, v, h => by
    simp only [List.map_cons, List.cons_append, lkH] at h
    cases e : Nat.beq x.q t with
    | true =>
      obtain rfl := Nat.eq_of_beq_eq_true e
      simp only [e, cond_true] at h
      rw [hx x (by simp), h]
    | false =>
      simp only [e, cond_false] at h
      exact lkH_map_all hH r (fun y hy => hx y (by simp [hy])) t v h
theorem lk_cons {q t : Nat} {k : Value} {H : List (Nat × Value)} : lk ((q, k) :: H) t = if q = t then some k else lk H t := by
  simp only [lk]
  by_cases e : q = t
  · subst e; simp
  · have : Nat.beq q t = false := by
      cases h : Nat.beq q t with
      | false => rfl
      | true => exact absurd (Nat.eq_of_beq_eq_true h) e
    simp [this, e]

theorem G_allocs (T : Nat) (all : List Al) (L0 : List (Nat × Value)) (H1 : List (Nat × Bk)) (hok : ∀ x ∈ all, AlOK P N ops L0 x) (hchk : allChk ops T all = true) (hni : (all.map (·.i)).Nodup) (hnd : (all.map (·.d)).Nodup) (hnq : (all.map (·.q)).Nodup)
    (hd0 : ∀ x ∈ all, lk L0 x.d = none) (hq1 : ∀ x ∈ all, lkH H1 x.q = none)
    (hfin : ∀ b : Nat → Nat, G P N B w0 ops K H0 f (lst ops.size T []) (all.map (fun x => (x.d, x.sl (b x.i))) ++ L0) (all.map (fun x => (x.q, x.bk (b x.i))) ++ H1)) :
    G P N B w0 ops K H0 (f + all.length) (lst ops.size T (all.map (·.i))) L0 H1 := by
  simp only [allChk, Bool.and_eq_true, List.all_eq_true] at hchk
  obtain ⟨⟨⟨c1, c2⟩, c3⟩, c4⟩ := hchk
  have hTs : T < ops.size := blt_lt.1 c2
  have hinj : ∀ (g : Al → Nat), (all.map g).Nodup → ∀ x ∈ all, ∀ y ∈ all, g x = g y → x = y := by
    intro g hg x hx y hy e
    exact map_inj hg hx hy e
  have key : ∀ (k : Nat) (rem : List Al) (L : List (Nat × Value)) (H : List (Nat × Bk)) (b : Nat → Nat), rem.length = k → (∀ x ∈ rem, x ∈ all) → (rem.map (·.i)).Nodup → (∀ x ∈ all, x ∉ rem → lk L x.d = some (x.sl (b x.i)) ∧ lkH H x.q = some (x.bk (b x.i))) →
      (∀ t v, lk L0 t = some v → lk L t = some v) → (∀ t v, lkH H1 t = some v → lkH H t = some v) → G P N B w0 ops K H0 (f + k) (lst ops.size T (rem.map (·.i))) L H := by
    intro k
    induction k with
    | zero =>
      intro rem L H b hl hsub hnr hdone hL hH
      have : rem = [] := List.length_eq_zero_iff.1 hl
      subst this
      refine ⟨fun a w hf hm h0 => (hfin b).run a w ⟨hf.size, fun t v ht => hf.get t v (lk_map_all hL all (fun x hx => (hdone x hx (by simp)).1) t v ht), hf.defers⟩ (hm.weak (lkH_map_all hH all (fun x hx => (hdone x hx (by simp)).2))) h0⟩
    | succ k ih =>
      intro rem L H b hl hsub hnr hdone hL hH
      obtain ⟨x0, hx0⟩ : ∃ x, x ∈ rem := List.exists_mem_of_ne_nil rem (by intro e; rw [e] at hl; simp at hl)
      have hready : ∀ i, i ∈ Region.ready .any ops (lst ops.size T (rem.map (·.i))) → ∃ x ∈ rem, x.i = i := by
        intro i hi
        obtain ⟨hun, o, ho, hall⟩ := mem_ready.1 hi
        have hlt : i < ops.size := (Array.getElem?_eq_some_iff.1 ho).1
        have hg : (lst ops.size T (rem.map (·.i))).getD i true = (Nat.blt i T && !((rem.map (·.i)).contains i)) := by simp [lst_get hlt]
        rw [hg] at hun
        by_cases hiT : i < T
        · have hb : Nat.blt i T = true := blt_lt.2 hiT
          simp only [hb, Bool.true_and, Bool.not_eq_false', List.contains_iff_mem, List.mem_map] at hun
          exact hun
        · exfalso
          by_cases e : i = T
          · subst e
            have hw := c3 x0 (hsub x0 hx0)
            have hx0T : x0.i < i := blt_lt.1 (c1 x0 (hsub x0 hx0)).1
            refine waits_not_ready hw ?_ hi
            have hm0 : (rem.map (·.i)).contains x0.i = true := List.contains_iff_mem.2 (List.mem_map.2 ⟨x0, hx0, rfl⟩)
            simp [lst_get (show x0.i < ops.size by omega)]
            intro _
            exact ⟨x0, hx0, rfl⟩
          · have hw := c4 i (List.mem_range.2 hlt)
            simp only [Bool.or_eq_true] at hw
            rcases hw with hw | hw
            · have := Nat.le_of_ble_eq_true hw; omega
            · refine waits_not_ready hw ?_ hi
              have hf : Nat.blt (i - 1) T = false := by
                cases hc : Nat.blt (i - 1) T with
                | false => rfl
                | true => have : i - 1 < T := blt_lt.1 hc
                          omega
              simp [lst_get (show i - 1 < ops.size by omega), hf]
      have hplace : ∀ x ∈ all, x.i < T := fun x hx => by
        exact blt_lt.1 (c1 x hx).1
      have hne : Region.ready .any ops (lst ops.size T (rem.map (·.i))) ≠ [] := by
        intro e
        have : x0.i ∈ Region.ready .any ops (lst ops.size T (rem.map (·.i))) := by
          have hx := c1 x0 (hsub x0 hx0)
          have hp := hplace x0 (hsub x0 hx0)
          obtain ⟨o, e', ho, _⟩ := hok x0 (hsub x0 hx0)
          rw [ho] at hx
          refine mem_ready.2 ⟨?_, o, ho, fun ed hed hbd => ?_⟩
          · simp [lst_get (show x0.i < ops.size by omega)]
            intro _
            exact ⟨x0, hx0, rfl⟩
          · have h1 := Array.all_eq_true'.1 hx.2 ed hed
            simp only [hbd, Bool.not_true, Bool.false_or, Bool.and_eq_true] at h1
            have hs : ed.on < ops.size := blt_lt.1 h1.2
            have hnot : ¬ ed.on ∈ rem.map (·.i) := fun hmm => by
              obtain ⟨y, hy, hyi⟩ := List.mem_map.1 hmm
              have : (all.map (·.i)).contains ed.on = true := List.contains_iff_mem.2 (List.mem_map.2 ⟨y, hsub y hy, hyi⟩)
              rw [this] at h1
              simp at h1
            have hcf : (rem.map (·.i)).contains ed.on = false := by
              cases hc : (rem.map (·.i)).contains ed.on with
              | false => rfl
              | true => exact absurd (List.contains_iff_mem.1 hc) hnot
            rw [Array.getD_eq_getD_getElem?, lst_get hs, h1.1.1, hcf]
            rfl
        rw [e] at this
        cases this
      refine ⟨fun a w hf hm h0 => ⟨fun e => absurd e hne, fun i hi => ?_⟩⟩
      obtain ⟨x, hx, rfl⟩ := hready i hi
      have hxa := hsub x hx
      obtain ⟨o, e, ho, hg, hdst, hbl, hrun⟩ := hok x hxa
      obtain ⟨arr, hr, hsz, hcell⟩ := hrun a w ⟨hf.size, fun t v ht => hf.get t v (hL t v ht), hf.defers⟩
      unfold wpOp
      simp only [ho]
      rw [if_pos (by simp [Region.wanted, hg])]
      left
      unfold Oper.wp
      rw [hr]
      have hA := hm.alloc x.q arr e (x.l : Int) (fun _ => x.v) (by rw [hsz]; omega) (fun j j0 j1 => hcell j.toNat (by omega))
      rw [hsz] at hA
      refine ⟨fun _ => h0.push _ _, ?_⟩
      have hset : (lst ops.size T (rem.map (·.i))).setIfInBounds x.i true = lst ops.size T (((rem.filter (fun y => !(Nat.beq y.i x.i)))).map (·.i)) := by
        refine lst_set (hplace x hxa) (by have := hplace x hxa; omega) fun j => ?_
        simp only [List.mem_map, List.mem_filter]
        constructor
        · rintro ⟨y, ⟨hy, hne⟩, rfl⟩
          exact ⟨⟨y, hy, rfl⟩, fun e => by rw [e] at hne; simp at hne⟩
        · rintro ⟨⟨y, hy, rfl⟩, hne⟩
          refine ⟨y, ⟨hy, ?_⟩, rfl⟩
          cases hc : Nat.beq y.i x.i with
          | false => rfl
          | true => exact absurd (Nat.eq_of_beq_eq_true hc) hne
      rw [hset, hdst]
      have hfilt : ∀ y, y ∈ rem.filter (fun y => !(Nat.beq y.i x.i)) ↔ y ∈ rem ∧ y ≠ x := by
        intro y
        simp only [List.mem_filter]
        constructor
        · rintro ⟨hy, hne⟩
          exact ⟨hy, fun e => by subst e; simp at hne⟩
        · rintro ⟨hy, hne⟩
          refine ⟨hy, ?_⟩
          cases hc : Nat.beq y.i x.i with
          | false => rfl
          | true => exact absurd (hinj (·.i) hni y (hsub y hy) x hxa (Nat.eq_of_beq_eq_true hc)) hne
      have hlen : (rem.filter (fun y => !(Nat.beq y.i x.i))).length = k := by
        have := filter_len hnr hx
        omega
      have hIH := ih (rem.filter (fun y => !(Nat.beq y.i x.i))) ((x.d, x.sl w.heap.size) :: L) ((x.q, x.bk w.heap.size) :: H) (fun i => if i = x.i then w.heap.size else b i) hlen (fun y hy => hsub y ((hfilt y).1 hy).1) (filter_nodup hnr)
        (fun y hya hyr => by
          by_cases e : y = x
          · subst e
            rw [lk_cons, lkH_cons, if_pos rfl, if_pos rfl, if_pos rfl]
            exact ⟨rfl, rfl⟩
          · have hyrem : y ∉ rem := fun hh => hyr ((hfilt y).2 ⟨hh, e⟩)
            have h1 := hdone y hya hyrem
            have n1 : ¬ x.d = y.d := fun e2 => e (hinj (·.d) hnd y hya x hxa e2.symm)
            have n2 : ¬ x.q = y.q := fun e2 => e (hinj (·.q) hnq y hya x hxa e2.symm)
            have n3 : ¬ y.i = x.i := fun e2 => e (hinj (·.i) hni y hya x hxa e2)
            rw [lk_cons, lkH_cons, if_neg n1, if_neg n2, if_neg n3]
            exact h1)
        (fun t v ht => by
          rw [lk_cons, if_neg (fun e2 => by rw [← e2, hd0 x hxa] at ht; cases ht)]
          exact hL t v ht)
        (fun t v ht => by
          rw [lkH_cons, if_neg (fun e2 => by rw [← e2, hq1 x hxa] at ht; cases ht)]
          exact hH t v ht)
      exact hIH.run _ _ (hf.put hbl _) hA (h0.push _ _)
  exact key all.length all L0 H1 (fun _ => 0) rfl (fun x hx => hx) hni (fun x hx hn => absurd hx hn) (fun t v h => h) (fun t v h => h)

theorem AlOK_make {L0 : List (Nat × Value)} {i d l : Nat} (q : Nat) {ty t e : TypeId} {pos : String} {af : Array Edge} {x y : Operand} {z : Value} {bytes : Nat} {kl kc : IntKind} (hi : ops[i]? = some ⟨some d, .makeSlice t x y, ty, pos, af, none⟩)
    (ht : MkT P t e z 1 bytes) (hz : z.cells = #[z]) (hx : ev L0 x = some (.int kl (l : Int))) (hy : ev L0 y = some (.int kc (l : Int))) (hb : (bytes : Int) * l ≤ 281474976710656) (hc : (l : Int) ≤ 9223372036854775807) (hd : Nat.ble (d + 1) N = true) : AlOK P N ops L0 ⟨i, d, q, l, z⟩ := by
  refine ⟨_, e, hi, rfl, rfl, hd, fun a w hf => ⟨(Array.range (l * 1)).map (z.cells[· % z.cells.size]!), ?_, by simp, fun j hj => ?_⟩⟩
  · have hr := run_makeSlice ht w kl kc (l : Int) (l : Int) (by omega) (Int.le_refl _) hb hc
    simp only [execOp, hf.eval hx, hf.eval hy, Sem.run_bind, hr, Result.andThen_ok, Sem.run_pure]
    rfl
  · have hj' : j < l := hj
    simp [hz, Array.getElem?_range, hj', Nat.mod_one]
theorem AlOK_lit {L0 : List (Nat × Value)} {i d : Nat} (q : Nat) {ty t e : TypeId} {pos : String} {af : Array Edge} {x : Operand} {z v : Value} {bytes : Nat} (hi : ops[i]? = some ⟨some d, .buildSlice t 1 #[(0, x)], ty, pos, af, none⟩)
    (ht : MkT P t e z 1 bytes) (hz : z.cells = #[z]) (hx : ev L0 x = some v) (hone : v.oneCell' = true) (hd : Nat.ble (d + 1) N = true) : AlOK P N ops L0 ⟨i, d, q, 1, v⟩ := by
  refine ⟨_, e, hi, rfl, rfl, hd, fun a w hf => ⟨#[v], ?_, rfl, fun j hj => ?_⟩⟩
  · obtain ⟨inf, hinf, hiz, hsz, hby⟩ := ht.info
    have hvc : v.cells = #[v] := by cases v <;> simp [Value.oneCell'] at hone <;> rfl
    have hbs : (Instr.buildSlice t 1 #[(0, v)]).run P w = .ok (.slice (some ⟨w.heap.size, 0, none⟩) 1 1) { w with heap := w.heap.push (.cells #[v] e) } := by
      simp [Instr.buildSlice, run_underlying ht.under, sizeOf, typeInfo, hinf, hsz, zeroValue, hiz, Instr.fill, hvc, hz, newRow, newObj, Sem.run, Array.range_succ, range0]
    simp only [execOp, hf.eval hx, List.map_toArray, List.map_cons, List.map_nil, Sem.run_bind, hbs, Result.andThen_ok, Sem.run_pure]
    rfl
  · have : j = 0 := by have : j < 1 := hj; omega
    subst this; rfl
end
end Go.Proofs.Qxb6001236a
