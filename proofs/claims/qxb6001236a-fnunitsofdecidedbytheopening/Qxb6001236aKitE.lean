/-
  OWN WORK. Kit E: a region that draws its order and writes: what only reads comes first in the text's order; what writes is forced; behind place 'n' every operation waits for all before 'n'.
-/
import Derived.Test.Qxb6001236aKitD
namespace Go.Proofs.Qxb6001236a
open Go.RowKit
set_option linter.unusedSimpArgs false
set_option linter.unusedVariables false

section
variable {P : Program} {ops : Array Oper} {S : World → Prop}

/-- A walk that accepts nothing but the normal end. -/
def Qn (K : Act → World → Prop) : Exit → Act → World → Prop
  | .normal, a, w => K a w
  | _, _, _ => False

/-- Whatever order is picked from here on; behind each operation below 'n' the memory is as 'S' says. -/
def wpT (P : Program) (ops : Array Oper) (K : Act → World → Prop) (S : World → Prop) (n : Nat) : Nat → Array Bool → Act → World → Prop
  | 0, listed, a, w => Region.ready .any ops listed = [] ∧ K a w
  | f + 1, listed, a, w => (Region.ready .any ops listed = [] → K a w) ∧
    ∀ i ∈ Region.ready .any ops listed, wpOp P ops (Qn K) i (fun a' w' => (i < n → S w') ∧ wpT P ops K S n f (listed.setIfInBounds i true) a' w') a w

theorem wpT_any {K : Act → World → Prop} {n : Nat} : ∀ (f : Nat) (listed : Array Bool) (a : Act) (w : World), wpT P ops K S n f listed a w → wpAny P .any ops (Qn K) f listed a w
  | 0, _, _, _, h => h
  | f + 1, _, _, _, h => ⟨h.1, fun i hi => wpOp_mono (fun a' w' h' => wpT_any f _ a' w' h'.2) (h.2 i hi)⟩

/-- In this frame the operation yields 'v' in every world that is as 'S' says. -/
def YS (P : Program) (ops : Array Oper) (S : World → Prop) (o : Oper) (v : Value) (a : Act) : Prop :=
  Region.wanted o (yielded ops a.tmps) = true ∧ ∀ w, S w → (execOp a.eval o).run P w = .ok (.value v) w

theorem YS.wpOp {K : Act → World → Prop} {i : Nat} {o : Oper} {v : Value} {a : Act} {w : World} {Q : Exit → Act → World → Prop} (hi : ops[i]? = some o) (h : YS P ops S o v a) (hS : S w) (hk : K (a.put o.dst v) w) : wpOp P ops Q i K a w := by
  unfold Go.wpOp
  simp only [hi, h.1, if_true, Oper.wp, h.2 w hS, Oper.upon]
  exact .inl hk

theorem YS.put {oi oj : Oper} {v u : Value} {a : Act} (h : YS P ops S oi v a) (hsi : ∀ cs b, oi.op ≠ .select cs b) (h3 : ∀ d, oj.dst = some d → d ∉ oi.looksAt ops) : YS P ops S oi v (a.put oj.dst u) := by
  refine ⟨?_, fun w hw => ?_⟩
  · rw [wanted_put oi a oj.dst u h3]; exact h.1
  · rw [execOp_put oi hsi a oj.dst u h3]; exact h.2 w hw

/-- Another operation, apart from it, may come ahead. -/
theorem ahead {K : Act → World → Prop} {K' : Act → World → Prop} {j : Nat} {oi oj : Oper} {v : Value} {a : Act} {w : World} (hj : ops[j]? = some oj) (hap : oi.apart ops oj = true) (hsi : ∀ cs b, oi.op ≠ .select cs b) (hsj : ∀ cs b, oj.op ≠ .select cs b)
    (hy : YS P ops S oi v a) (h : wpOp P ops (Qn K) j K' (a.put oi.dst v) w) : wpOp P ops (Qn K) j (fun a' w' => YS P ops S oi v a' ∧ K' (a'.put oi.dst v) w') a w := by
  obtain ⟨h1, h2, h3⟩ := Oper.apart_spec hap
  have he := execOp_put oj hsj a oi.dst v h1
  unfold wpOp at h ⊢
  simp only [hj] at h ⊢
  rw [wanted_put oj a oi.dst v h1] at h
  by_cases hw : Region.wanted oj (yielded ops a.tmps) = true
  · rw [if_pos hw] at h ⊢
    rcases h with h | ⟨_, _, _, h⟩
    · left
      unfold Oper.wp at h ⊢
      rw [he] at h
      cases hr : (execOp a.eval oj).run P w with
      | halt x w' => rw [hr] at h; cases x <;> exact h
      | ok nx w' =>
        rw [hr] at h
        cases nx with
        | value u => exact ⟨hy.put hsi h3, by rw [← Act.put_comm a v u h2]; exact h⟩
        | skip => exact ⟨hy.put hsi h3, by rw [← Act.put_comm a v undef h2]; exact h⟩
        | defer d =>
          refine ⟨YS.put (a := { a with defers := d :: a.defers }) hy hsi h3, ?_⟩
          show K' ((({ a with defers := d :: a.defers } : Act).put oj.dst undef).put oi.dst v) w'
          rw [← Act.put_comm _ v undef h2, ← Act.put_defers]
          exact h
        | enter f args =>
          refine Calls.mono h fun e w'' hE => ?_
          cases e with
          | returned u => exact ⟨hy.put hsi h3, by rw [← Act.put_comm a v u h2]; exact hE⟩
          | panicked c => exact hE
          | outgrown => exact hE
        | row r args => exact Rows.mono h fun u w'' hE => ⟨hy.put hsi h3, by rw [← Act.put_comm a v u h2]; exact hE⟩
        | _ => exact h
    · exact h.elim
  · rw [if_neg hw] at h ⊢
    exact ⟨hy.put hsi h3, by rw [← Act.put_comm a v undef h2]; exact h⟩

/-- Place 'j' waits for place 'i'. -/
def waits (ops : Array Oper) (j i : Nat) : Bool := match ops[j]? with
  | some o => o.after.any fun e => Region.binds .any e && e.on == i
  | none => false

def tailB (ops : Array Oper) (n : Nat) : Bool := (List.range ops.size).all fun j => decide (j < n) || (List.range n).all fun i => waits ops j i

theorem tail_not_ready {n i j : Nat} {listed : Array Bool} (ht : tailB ops n = true) (hin : i < n) (hun : listed.getD i true = false) (hj : j ∈ Region.ready .any ops listed) : j < n := by
  obtain ⟨_, o, ho, hall⟩ := mem_ready.1 hj
  have hlt : j < ops.size := (Array.getElem?_eq_some_iff.1 ho).1
  have h1 := List.all_eq_true.1 ht j (List.mem_range.2 hlt)
  simp only [Bool.or_eq_true, decide_eq_true_eq] at h1
  rcases h1 with h1 | h1
  · exact h1
  · have h2 := List.all_eq_true.1 h1 i (List.mem_range.2 hin)
    simp only [waits, ho] at h2
    obtain ⟨e, he, hb⟩ := Array.any_eq_true'.1 h2
    simp only [Bool.and_eq_true, beq_iff_eq] at hb
    have h3 := hall e he hb.1
    rw [hb.2] at h3
    exfalso
    rcases Nat.lt_or_ge i listed.size with h' | h'
    · simp [h'] at hun h3; rw [hun] at h3; cases h3
    · simp [Array.getElem?_eq_none h'] at h3

/-- What yields its value in every such world may be taken first. -/
theorem wpT_first {K : Act → World → Prop} {n i : Nat} {oi : Oper} {v : Value} (hi : ops[i]? = some oi) (hsel : Region.noSelect ops = true) (ht : tailB ops n = true) (hin : i < n) :
    ∀ (f : Nat) (listed : Array Bool) (a : Act) (w : World),
      (∀ j oj, ops[j]? = some oj → j ≠ i → listed.getD j true = false → (∀ e ∈ oj.after, Region.binds .any e = true → e.on ≠ i) → oi.apart ops oj = true) →
      i ∈ Region.ready .any ops listed → YS P ops S oi v a → S w →
      wpT P ops K S n f (listed.setIfInBounds i true) (a.put oi.dst v) w → wpT P ops K S n (f + 1) listed a w := by
  intro f
  induction f with
  | zero =>
    intro listed a w _ hr hy hS hrest
    refine ⟨fun h0 => (by rw [h0] at hr; cases hr), fun j hj => ?_⟩
    by_cases hji : j = i
    · subst hji; exact hy.wpOp hi hS ⟨fun _ => hS, hrest⟩
    · have := ready_mono hj hji
      rw [hrest.1] at this
      cases this
  | succ f ih =>
    intro listed a w hfree hr hy hS hrest
    have hun := (mem_ready.1 hr).1
    refine ⟨fun h0 => (by rw [h0] at hr; cases hr), fun j hj => ?_⟩
    by_cases hji : j = i
    · subst hji; exact hy.wpOp hi hS ⟨fun _ => hS, hrest⟩
    · have hjn : j < n := tail_not_ready ht hin hun hj
      obtain ⟨hjun, oj, hoj, hall⟩ := mem_ready.1 hj
      have hnot : ∀ e ∈ oj.after, Region.binds .any e = true → e.on ≠ i := fun e he hb heq => by
        have h1 := hall e he hb
        rw [heq] at h1
        rcases Nat.lt_or_ge i listed.size with h' | h'
        · simp [h'] at hun h1; rw [hun] at h1; cases h1
        · simp [Array.getElem?_eq_none h'] at h1
      have h2 := ahead hoj (hfree j oj hoj hji hjun hnot) (fun cs b => Region.noSelect_spec hsel i oi cs b hi) (fun cs b => Region.noSelect_spec hsel j oj cs b hoj) hy (hrest.2 j (ready_mono hj hji))
      refine wpOp_mono (fun a' w' h3 => ⟨h3.2.1, ih (listed.setIfInBounds j true) a' w' ?_ (ready_mono hr (Ne.symm hji)) h3.1 (h3.2.1 hjn) ?_⟩) h2
      · intro k ok hk hki hun' hno
        refine hfree k ok hk hki ?_ hno
        by_cases hjk : j = k
        · subst hjk; exact hjun
        · rw [getD_set_ne true hjk] at hun'; exact hun'
      · rw [Array.setIfInBounds_comm _ _ hji]
        exact h3.2.2

/-! ### The text's order -/
def firsts (m k : Nat) : Array Bool := ((List.range m).map fun i => Nat.blt i k).toArray

theorem firsts_zero (m : Nat) : firsts m 0 = Array.replicate m false := by
  apply Array.ext
  · simp [firsts]
  · intro i h1 h2
    simp [firsts, Nat.blt, Nat.ble]
theorem firsts_succ (m k : Nat) : (firsts m k).setIfInBounds k true = firsts m (k + 1) := by
  apply Array.ext
  · simp [firsts]
  · intro i h1 h2
    simp only [firsts, Array.size_setIfInBounds, List.size_toArray, List.length_map, List.length_range] at h1
    by_cases e : k = i
    · subst e; simp [firsts, Nat.blt]
    · rw [Array.getElem_setIfInBounds_ne (by simpa [firsts] using h1) e]
      simp only [firsts, List.getElem_toArray, List.getElem_map, List.getElem_range]
      rw [Bool.eq_iff_iff]
      simp [Nat.blt]
      omega

/-- The region in its text's order: below 'nl' each may be taken first; from 'nl' on each is the only one that may come up; from 'n' on each waits for all below 'n'. -/
def lexA (ops : Array Oper) (n nl : Nat) : Bool :=
  Region.noSelect ops && tailB ops n && (Region.ready .any ops (firsts ops.size ops.size)).isEmpty &&
  (List.range ops.size).all fun k => bif Nat.blt k nl then Nat.blt k n && (Region.ready .any ops (firsts ops.size k)).contains k && Region.free .any ops (firsts ops.size k) k
    else Region.ready .any ops (firsts ops.size k) == [k]

theorem lexA_free {n nl k : Nat} (h : lexA ops n nl = true) (hk : k < nl) (hm : k < ops.size) : k < n ∧ k ∈ Region.ready .any ops (firsts ops.size k) ∧ Region.free .any ops (firsts ops.size k) k = true := by
  simp only [lexA, Bool.and_eq_true] at h
  have h1 := List.all_eq_true.1 h.2 k (List.mem_range.2 hm)
  have hb : Nat.blt k nl = true := by simp [Nat.blt]; omega
  simp only [hb, cond_true, Bool.and_eq_true] at h1
  exact ⟨by have := h1.1.1; simp [Nat.blt] at this; omega, by simpa using h1.1.2, h1.2⟩
theorem lexA_only {n nl k : Nat} (h : lexA ops n nl = true) (hk : nl ≤ k) (hm : k < ops.size) : Region.ready .any ops (firsts ops.size k) = [k] := by
  simp only [lexA, Bool.and_eq_true] at h
  have h1 := List.all_eq_true.1 h.2 k (List.mem_range.2 hm)
  have hb : Nat.blt k nl = false := by
    cases hc : Nat.blt k nl with
    | false => rfl
    | true => simp [Nat.blt] at hc; omega
  simpa [hb] using h1

theorem drop_cons {l : List Oper} {k : Nat} {o : Oper} {rest : List Oper} (h : l.drop k = o :: rest) : l[k]? = some o ∧ k < l.length ∧ l.drop (k + 1) = rest ∧ rest.length + 1 = l.length - k := by
  have hlt : k < l.length := by
    rcases Nat.lt_or_ge k l.length with h' | h'
    · exact h'
    · rw [List.drop_eq_nil_of_le h'] at h; cases h
  rw [List.drop_eq_getElem_cons hlt] at h
  simp only [List.cons.injEq] at h
  refine ⟨by rw [List.getElem?_eq_getElem hlt, h.1], hlt, h.2, ?_⟩
  have := congrArg List.length h.2
  simp at this
  omega
end

/-- The walk over a region that draws its order and writes. -/
structure T (P : Program) (N : Nat) (B : Nat → Prop) (w0 : World) (ops : Array Oper) (K : Act → World → Prop) (n nl : Nat) (H0 : List (Nat × Bk)) (rest : List Oper) (L : List (Nat × Value)) (H : List (Nat × Bk)) : Prop where
  run : lexA ops n nl = true → ∀ k, ops.toList.drop k = rest → (k < nl → H = H0) → ∀ a w, Fr N L a → Mem B w0 H w → (k ≤ n → Mem B w0 H0 w) → wpT P ops K (Mem B w0 H0) n rest.length (firsts ops.size k) a w

section
variable {P : Program} {N : Nat} {B : Nat → Prop} {w0 : World} {ops : Array Oper} {K : Act → World → Prop} {n nl : Nat} {H0 : List (Nat × Bk)} {L : List (Nat × Value)} {H : List (Nat × Bk)}

/-- An operation that is the only one that may come up. -/
theorem T_step {o : Oper} {rest : List Oper} (hg : o.guard = none) (hnl : Nat.ble (rest.length + 1) (ops.size - nl) = true) (hn : Nat.ble (ops.size - n) (rest.length + 1) = true)
    (h : ∀ a w, Fr N L a → Mem B w0 H w → Mem B w0 H0 w → o.wp P a w (fun a' w' => ∃ L' H', Fr N L' a' ∧ Mem B w0 H' w' ∧ Mem B w0 H0 w' ∧ T P N B w0 ops K n nl H0 rest L' H') (Qn K)) : T P N B w0 ops K n nl H0 (o :: rest) L H := by
  refine ⟨fun hx k hk hH a w hf hm hS => ?_⟩
  obtain ⟨h1, h2, h3, h4⟩ := drop_cons hk
  have hsz : ops.toList.length = ops.size := by simp
  have hle : rest.length + 1 ≤ ops.size - nl := Nat.le_of_ble_eq_true hnl
  have hle2 : ops.size - n ≤ rest.length + 1 := Nat.le_of_ble_eq_true hn
  have hok : ops[k]? = some o := by simpa using h1
  have hr := lexA_only hx (k := k) (by omega) (by omega)
  refine ⟨fun h0 => (by rw [hr] at h0; cases h0), fun i hi => ?_⟩
  rw [hr] at hi
  obtain rfl : i = k := by simpa using hi
  unfold wpOp
  simp only [hok]
  rw [if_pos (by simp [Region.wanted, hg])]
  left
  refine Oper.wp_mono (fun a' w' h' => ?_) (h a w hf hm (hS (by omega)))
  obtain ⟨L', H', g1, g2, g3, g4⟩ := h'
  refine ⟨fun hkn => g3, ?_⟩
  rw [firsts_succ]
  exact g4.run hx (i + 1) h3 (fun hlt => by omega) a' w' g1 g2 (fun hkn => g3)

theorem T_w0 : Walk0 P N B w0 (T P N B w0 ops K n nl H0) where
  q := fun {L H d op ty pos af v rest} hq hd h => by
    refine ⟨fun hx k hk hH a w hf hm hS => ?_⟩
    obtain ⟨h1, h2, h3, h4⟩ := drop_cons hk
    have hok : ops[k]? = some ⟨some d, op, ty, pos, af, none⟩ := by simpa using h1
    have hsz : ops.toList.length = ops.size := by simp
    have hnext : wpT P ops K (Mem B w0 H0) n rest.length (firsts ops.size (k + 1)) (a.put (some d) v) w ∨ ¬ (k + 1 ≤ n → Mem B w0 H0 w) := by
      by_cases hc : k + 1 ≤ n → Mem B w0 H0 w
      · exact .inl (h.run hx (k + 1) h3 (fun hlt => hH (by omega)) _ w (hf.put hd v) hm hc)
      · exact .inr hc
    have hS1 : k + 1 ≤ n → Mem B w0 H0 w := fun hkn => hS (by omega)
    have hnx := hnext.resolve_right (fun hc => hc hS1)
    by_cases hlt : k < nl
    · obtain ⟨c1, c2, c3⟩ := lexA_free hx hlt (by omega)
      obtain rfl := hH hlt
      have hsel : Region.noSelect ops = true := by simp only [lexA, Bool.and_eq_true] at hx; exact hx.1.1.1
      have htl : tailB ops n = true := by simp only [lexA, Bool.and_eq_true] at hx; exact hx.1.1.2
      refine wpT_first hok hsel htl c1 rest.length (firsts ops.size k) a w (Region.free_spec hok c3) c2 ⟨rfl, fun w' hw' => hq.run a w' _ _ _ _ hf hw'⟩ hm ?_
      rw [firsts_succ]
      exact hnx
    · have hr := lexA_only hx (k := k) (by omega) (by omega)
      refine ⟨fun h0 => (by rw [hr] at h0; cases h0), fun i hi => ?_⟩
      rw [hr] at hi
      obtain rfl : i = k := by simpa using hi
      unfold wpOp
      simp only [hok]
      rw [if_pos (by simp [Region.wanted])]
      left
      unfold Oper.wp
      rw [hq.run a w _ _ _ _ hf hm]
      refine ⟨fun hkn => hS (by omega), ?_⟩
      rw [firsts_succ]
      exact hnx
  relab := fun hl h => ⟨fun hx k hk hH a w hf hm hS => h.run hx k hk hH a w ⟨hf.size, fun t v ht => hf.get t v (hl t v ht), hf.defers⟩ hm hS⟩

/-- The tail: each operation is the only one that may come up, and nothing is held any more. -/
theorem T_tail {rest : List Oper} (hnl : Nat.ble rest.length (ops.size - nl) = true) (hn : Nat.ble rest.length (ops.size - n) = true) (h : V P N B w0 ops (Qn K) rest L H) : T P N B w0 ops K n nl H0 rest L H := by
  have key : ∀ (rest : List Oper) (k : Nat) (a : Act) (w : World), lexA ops n nl = true → ops.toList.drop k = rest → rest.length ≤ ops.size - nl → rest.length ≤ ops.size - n → wpList P ops (Qn K) rest a w →
      wpT P ops K (Mem B w0 H0) n rest.length (firsts ops.size k) a w := by
    intro rest
    induction rest with
    | nil =>
      intro k a w hx hk _ _ hw
      have hge : ops.size ≤ k := by
        have := congrArg List.length hk
        simp at this; omega
      have he : firsts ops.size k = firsts ops.size ops.size := by
        apply Array.ext
        · simp [firsts]
        · intro i h1 h2
          simp only [firsts, List.getElem_toArray, List.getElem_map, List.getElem_range]
          simp [firsts] at h1
          rw [Bool.eq_iff_iff]
          simp [Nat.blt]
          omega
      have h0 : (Region.ready .any ops (firsts ops.size ops.size)).isEmpty = true := by simp only [lexA, Bool.and_eq_true] at hx; exact hx.1.2
      refine ⟨?_, hw⟩
      rw [he]
      simpa using h0
    | cons o rest ih =>
      intro k a w hx hk hl1 hl2 hw
      obtain ⟨h1, h2, h3, h4⟩ := drop_cons hk
      have hok : ops[k]? = some o := by simpa using h1
      have hsz : ops.toList.length = ops.size := by simp
      simp only [List.length_cons] at hl1 hl2
      have hr := lexA_only hx (k := k) (by omega) (by omega)
      refine ⟨fun h0 => (by rw [hr] at h0; cases h0), fun i hi => ?_⟩
      rw [hr] at hi
      obtain rfl : i = k := by simpa using hi
      have hw' : wpOp P ops (Qn K) i (wpList P ops (Qn K) rest) a w := by unfold wpOp; simp only [hok]; exact hw
      refine wpOp_mono (fun a' w' h' => ⟨fun hlt => by omega, ?_⟩) hw'
      rw [firsts_succ]
      exact ih (i + 1) a' w' hx h3 (by omega) (by omega) h'
  exact ⟨fun hx k hk hH a w hf hm hS => key rest k a w hx hk (Nat.le_of_ble_eq_true hnl) (Nat.le_of_ble_eq_true hn) (h.run a w hf hm)⟩

/-- 'append(xs, v)' in such a region, an element of one cell. -/
theorem T_app {d1 d2 : Nat} {ty1 ty2 t e : TypeId} {pos1 pos2 : String} {af1 af2 : Array Edge} {rest : List Oper} {s x : Operand} {z v sv : Value} {bytes q len kb ks : Nat} {kc c' : Int → Value}
    (hnl : Nat.ble (rest.length + 2) (ops.size - nl) = true) (hn : Nat.ble (ops.size - n) (rest.length + 1) = true) (ht : MkT P t e z 1 bytes) (hz : z.cells = #[z]) (hq0 : lkH H0 q = some ⟨kb, ks, (len : Int), kc⟩)
    (hs' : ∀ p, ev ((d1, p) :: L) s = some sv) (hg : Gs ⟨kb, ks, (len : Int), kc⟩ 1 len sv) (hx : ev L x = some v) (hone : v.oneCell' = true)
    (hbig : (len + 1) * bytes ≤ 140737488355328) (hlen2 : len < 4611686018427387904) (hd1 : Nat.ble (d1 + 1) N = true) (hd2 : Nat.ble (d2 + 1) N = true) (hc' : upd kc (len : Int) v = c')
    (h : ∀ p sv' b' sz', 0 < sz' → Gs ⟨b', sz', (len : Int) + 1, c'⟩ 1 (len + 1) sv' → T P N B w0 ops K n nl H0 rest ((d2, sv') :: (d1, p) :: L) ((q, ⟨b', sz', (len : Int) + 1, c'⟩) :: H0)) :
    T P N B w0 ops K n nl H0 (⟨some d1, .buildSlice t 1 #[(0, x)], ty1, pos1, af1, none⟩ :: ⟨some d2, .call { callee := .builtin .append, args := #[s, .tmp d1], argTypes := #[t, t] }, ty2, pos2, af2, none⟩ :: rest) L H0 := by
  have hle : rest.length + 2 ≤ ops.size - nl := Nat.le_of_ble_eq_true hnl
  have hle2 : ops.size - n ≤ rest.length + 1 := Nat.le_of_ble_eq_true hn
  refine T_step rfl (Nat.ble_eq_true_of_le (by simp only [List.length_cons]; omega)) (Nat.ble_eq_true_of_le (by simp only [List.length_cons]; omega)) fun a w hf hm _ => ?_
  obtain ⟨i, hi, hiz, hsz, hby⟩ := ht.info
  have hvc : v.cells = #[v] := by cases v <;> simp [Value.oneCell'] at hone <;> rfl
  have hbs : (Instr.buildSlice t 1 #[(0, v)]).run P w = .ok (.slice (some ⟨w.heap.size, 0, none⟩) 1 1) { w with heap := w.heap.push (.cells #[v] e) } := by
    simp [Instr.buildSlice, run_underlying ht.under, sizeOf, typeInfo, hi, hsz, zeroValue, hiz, Instr.fill, hvc, hz, newRow, newObj, Sem.run, Array.range_succ, range0]
  have hA := hm.alloc 0 #[v] e 1 (fun _ => v) (by simp) (fun i h0 h1 => by
    have : i = 0 := by omega
    subst this; rfl)
  have hm1 : Mem B w0 H0 { w with heap := w.heap.push (.cells #[v] e) } := hm.push _ _
  unfold Oper.wp
  simp only [execOp, hf.eval hx, List.map_toArray, List.map_cons, List.map_nil, Sem.run_bind, hbs, Result.andThen_ok, Sem.run_pure]
  refine ⟨_, _, hf.put hd1 (.slice (some ⟨w.heap.size, 0, none⟩) 1 1), hA, hm1, ?_⟩
  generalize w.heap.size = g
  refine T_step rfl (Nat.ble_eq_true_of_le (by omega)) hn fun a2 w2 hf2 hm2 hS2 => ?_
  have hcell : ∀ j u, [v][j]? = some u → w2.cell? ((⟨g, 0, none⟩ : Addr).add j) = some u := by
    intro j u hj
    cases j with
    | zero =>
      simp at hj; subst hj
      have := cell_own hm2 (q := 0) (k := ⟨g, (#[v] : Array Value).size, 1, fun _ => v⟩) (by simp [lkH_cons]) (i := 0) (by omega) (by show (0 : Int) < 1; omega)
      simpa [Addr.add] using this
    | succ j => simp at hj
  obtain ⟨sv', w', k', r1, r2, r3, r4, r5, r6, r7⟩ := run_app (P := P) hS2 hq0 (ty := ty2) ht hg (by simp) ⟨g, 0, none⟩ 1 [v] rfl hcell (by simpa using hone) hbig hlen2
  simp only [Nat.mul_one] at r4 r5
  rw [lay_one] at r5
  have e1 := hf2.eval (hs' _)
  have e2 : a2.eval (.tmp d1) = .slice (some ⟨g, 0, none⟩) 1 1 := hf2.eval (by simp [ev, lk])
  unfold Oper.wp
  simp only [execOp, resolve, invoke, builtin, List.map_toArray, List.map_cons, List.map_nil, e1, e2, Sem.run_bind, Sem.run_pure, Result.andThen_ok, r1]
  obtain ⟨kb', ks', kn', kc'⟩ := k'
  have r4' : kn' = (len : Int) + 1 := by have : kn' = _ := r4; omega
  have r5' : kc' = c' := by have : kc' = _ := r5; rw [this, hc']
  subst r4' r5'
  exact ⟨_, _, hf2.put hd2 _, r6, r7 (by simp), h _ sv' kb' ks' r2 r3⟩

theorem C_draws {id : Nat} {l : List Oper} {Q : Exit → Act → World → Prop} (n nl : Nat) (hmix : P.follows .mixedOrders = true) (hx : lexA l.toArray n nl = true) (h : T P N B w0 l.toArray (Q .normal) n nl H l L H) : C P N B w0 (.region id l.toArray true) Q L H := by
  refine ⟨fun a w hf hm => wp_mono (Q := Qn (Q .normal)) (wp_region_any hmix (wpT_any (S := Mem B w0 H) (n := n) _ _ _ _ ?_)) fun e a' w' hq => ?_⟩
  · have h1 := h.run hx 0 (by simp) (fun _ => rfl) a { w with drawn := w.drawn + 1 } hf (hm.drawn _) (fun _ => hm.drawn _)
    rw [firsts_zero] at h1
    simpa using h1
  · cases e with
    | normal => exact hq
    | _ => exact hq.elim
theorem X_Qn {R : Act → World → Prop} (h : X N B w0 R L H) : X N B w0 (Qn R .normal) L H := ⟨fun a w hf hm => h.run a w hf hm⟩
end
end Go.Proofs.Qxb6001236a
