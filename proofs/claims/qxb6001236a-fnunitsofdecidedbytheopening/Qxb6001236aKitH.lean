/-
  OWN WORK. Kit H: drawn regions: an append of an element of two cells; a store that may come ahead of a read.
-/
import Derived.Test.Qxb6001236aKitG
namespace Go.Proofs.Qxb6001236a
open Go.RowKit
set_option linter.unusedSimpArgs false
set_option linter.unusedVariables false

theorem lay_two (c : Int → Value) (o : Int) (v u : Value) : lay c o [v, u] = upd (upd c o v) (o + 1) u := by
  funext i
  simp only [lay, upd, List.length_cons, List.length_nil]
  by_cases h : i = o
  · subst h
    rw [if_pos (by omega), if_neg (by omega), if_pos rfl]
    simp
  · by_cases h' : i = o + 1
    · subst h'
      rw [if_pos (by omega), if_pos rfl]
      rw [show (o + 1 - o).toNat = 1 from by omega]
      rfl
    · rw [if_neg (by omega), if_neg h', if_neg h]

section
variable {P : Program} {N : Nat} {B : Nat → Prop} {w0 : World} {ops : Array Oper} {K : Act → World → Prop} {n nl : Nat} {H0 : List (Nat × Bk)} {L : List (Nat × Value)} {H : List (Nat × Bk)}

/-- 'append(xs, v)' in such a region, an element of two cells. -/
theorem T_app2 {d1 d2 : Nat} {ty1 ty2 t e : TypeId} {pos1 pos2 : String} {af1 af2 : Array Edge} {rest : List Oper} {s x : Operand} {z v1 v2 sv : Value} {bytes q len kb ks : Nat} {kn kn2 : Int} {kc c' : Int → Value}
    (hnl : Nat.ble (rest.length + 2) (ops.size - nl) = true) (hn : Nat.ble (ops.size - n) (rest.length + 1) = true) (ht : MkT P t e z 2 bytes) (hq0 : lkH H0 q = some ⟨kb, ks, kn, kc⟩)
    (hs' : ∀ p, ev ((d1, p) :: L) s = some sv) (hg : Gs ⟨kb, ks, kn, kc⟩ 2 len sv) (hx : ev L x = some (.agg #[v1, v2])) (hkn : kn = ((len * 2 : Nat) : Int)) (hk2 : kn + 2 = kn2) (hone1 : v1.oneCell' = true) (hone2 : v2.oneCell' = true)
    (hbig : (len + 1) * bytes ≤ 140737488355328) (hlen2 : len < 4611686018427387904) (hd1 : Nat.ble (d1 + 1) N = true) (hd2 : Nat.ble (d2 + 1) N = true) (hc' : upd (upd kc kn v1) (kn + 1) v2 = c')
    (h : ∀ p sv' b' sz', 0 < sz' → Gs ⟨b', sz', kn2, c'⟩ 2 (len + 1) sv' → T P N B w0 ops K n nl H0 rest ((d2, sv') :: (d1, p) :: L) ((q, ⟨b', sz', kn2, c'⟩) :: H0)) :
    T P N B w0 ops K n nl H0 (⟨some d1, .buildSlice t 1 #[(0, x)], ty1, pos1, af1, none⟩ :: ⟨some d2, .call { callee := .builtin .append, args := #[s, .tmp d1], argTypes := #[t, t] }, ty2, pos2, af2, none⟩ :: rest) L H0 := by
  have hle : rest.length + 2 ≤ ops.size - nl := Nat.le_of_ble_eq_true hnl
  have hle2 : ops.size - n ≤ rest.length + 1 := Nat.le_of_ble_eq_true hn
  refine T_step rfl (Nat.ble_eq_true_of_le (by simp only [List.length_cons]; omega)) (Nat.ble_eq_true_of_le (by simp only [List.length_cons]; omega)) fun a w hf hm _ => ?_
  obtain ⟨i, hi, hiz, hsz, hby⟩ := ht.info
  have hzs : z.cells.size = 2 := ht.cells
  have hbs : (Instr.buildSlice t 1 #[(0, .agg #[v1, v2])]).run P w = .ok (.slice (some ⟨w.heap.size, 0, none⟩) 1 1) { w with heap := w.heap.push (.cells #[v1, v2] e) } := by
    have hvc : (Value.agg #[v1, v2]).cells = #[v1, v2] := rfl
    simp [Instr.buildSlice, run_underlying ht.under, sizeOf, typeInfo, hi, hsz, zeroValue, hiz, Instr.fill, hvc, hzs, newRow, newObj, Sem.run, Array.range_succ, range0]
  have hA := hm.alloc 0 #[v1, v2] e 2 (fun i => if i = 0 then v1 else v2) (by simp) (fun i h0 h1 => by
    rcases (by omega : i = 0 ∨ i = 1) with rfl | rfl <;> rfl)
  have hm1 : Mem B w0 H0 { w with heap := w.heap.push (.cells #[v1, v2] e) } := hm.push _ _
  unfold Oper.wp
  simp only [execOp, hf.eval hx, List.map_toArray, List.map_cons, List.map_nil, Sem.run_bind, hbs, Result.andThen_ok, Sem.run_pure]
  refine ⟨_, _, hf.put hd1 (.slice (some ⟨w.heap.size, 0, none⟩) 1 1), hA, hm1, ?_⟩
  generalize w.heap.size = g
  refine T_step rfl (Nat.ble_eq_true_of_le (by omega)) hn fun a2 w2 hf2 hm2 hS2 => ?_
  have hcell : ∀ j u, [v1, v2][j]? = some u → w2.cell? ((⟨g, 0, none⟩ : Addr).add j) = some u := by
    intro j u hj
    have hj2 : j = 0 ∧ u = v1 ∨ j = 1 ∧ u = v2 := by
      cases j with
      | zero => left; simpa using hj.symm
      | succ j => cases j with
        | zero => right; simpa using hj.symm
        | succ j => simp at hj
    rcases hj2 with ⟨rfl, rfl⟩ | ⟨rfl, rfl⟩
    · have := cell_own hm2 (q := 0) (k := ⟨g, (#[u, v2] : Array Value).size, 2, fun i => if i = 0 then u else v2⟩) (by simp [lkH_cons]) (i := 0) (by omega) (by show (0 : Int) < 2; omega)
      simpa [Addr.add] using this
    · have := cell_own hm2 (q := 0) (k := ⟨g, (#[v1, u] : Array Value).size, 2, fun i => if i = 0 then v1 else u⟩) (by simp [lkH_cons]) (i := 1) (by omega) (by show (1 : Int) < 2; omega)
      simpa [Addr.add] using this
  obtain ⟨sv', w', k', r1, r2, r3, r4, r5, r6, r7⟩ := run_app (P := P) hS2 hq0 (ty := ty2) ht hg (by show _ ≤ kn; omega) ⟨g, 0, none⟩ 1 [v1, v2] rfl hcell (by intro v hv; simp at hv; rcases hv with rfl | rfl <;> assumption) hbig hlen2
  rw [lay_two] at r5
  have e1 := hf2.eval (hs' _)
  have e2 : a2.eval (.tmp d1) = .slice (some ⟨g, 0, none⟩) 1 1 := hf2.eval (by simp [ev, lk])
  unfold Oper.wp
  simp only [execOp, resolve, invoke, builtin, List.map_toArray, List.map_cons, List.map_nil, e1, e2, Sem.run_bind, Sem.run_pure, Result.andThen_ok, r1]
  obtain ⟨kb', ks', kn', kc'⟩ := k'
  have r4' : kn' = kn2 := by have : kn' = _ := r4; omega
  have r5' : kc' = c' := by have : kc' = _ := r5; rw [this, ← hc', hkn]
  subst r4' r5'
  exact ⟨_, _, hf2.put hd2 _, r6, r7 hkn, h _ sv' kb' ks' r2 r3⟩

/-- The same walk, what is known of memory being parted: 'H' is what the reads lean on and what every write keeps, 'Hf' all. -/
structure T2 (P : Program) (N : Nat) (B : Nat → Prop) (w0 : World) (ops : Array Oper) (K : Act → World → Prop) (n nl : Nat) (Hf H0 : List (Nat × Bk)) (rest : List Oper) (L : List (Nat × Value)) (H : List (Nat × Bk)) : Prop where
  run : lexA ops n nl = true → ∀ k, ops.toList.drop k = rest → H = H0 → ∀ a w, Fr N L a → Mem B w0 Hf w → Mem B w0 H0 w → wpT P ops K (Mem B w0 H0) n rest.length (firsts ops.size k) a w

theorem T2_switch {Hf : List (Nat × Bk)} {rest : List Oper} (hl : Nat.ble rest.length (ops.size - nl) = true) (hs : Nat.ble nl ops.size = true) (h : T P N B w0 ops K n nl H0 rest L Hf) : T2 P N B w0 ops K n nl Hf H0 rest L H := by
  refine ⟨fun hx k hk _ a w hf hmf hm0 => h.run hx k hk (fun hlt => ?_) a w hf hmf (fun _ => hm0)⟩
  have hl' : rest.length ≤ ops.size - nl := Nat.le_of_ble_eq_true hl
  have hs' : nl ≤ ops.size := Nat.le_of_ble_eq_true hs
  have hd := congrArg List.length hk
  simp at hd
  omega

theorem T2_w0 {Hf : List (Nat × Bk)} : Walk0 P N B w0 (T2 P N B w0 ops K n nl Hf H0) where
  q := fun {L H d op ty pos af v rest} hq hd h => by
    refine ⟨fun hx k hk hH a w hf hmf hm => ?_⟩
    obtain ⟨h1, h2, h3, h4⟩ := drop_cons hk
    have hok : ops[k]? = some ⟨some d, op, ty, pos, af, none⟩ := by simpa using h1
    have hsz : ops.toList.length = ops.size := by simp
    subst hH
    have hnx := h.run hx (k + 1) h3 rfl _ w (hf.put hd v) hmf hm
    by_cases hlt : k < nl
    · obtain ⟨c1, c2, c3⟩ := lexA_free hx hlt (by omega)
      have hsel : Region.noSelect ops = true := by simp only [lexA, Bool.and_eq_true] at hx; exact hx.1.1.1
      have htl : tailB ops n = true := by simp only [lexA, Bool.and_eq_true] at hx; exact hx.1.1.2
      refine wpT_first hok hsel htl c1 rest.length (firsts ops.size k) a w (Region.free_spec hok c3) c2 ⟨rfl, fun w' hw' => hq.run a w' _ _ _ _ hf hw'⟩ hm ?_
      rw [firsts_succ]
      exact hnx
    · have hr := lexA_only hx (k := k) (by omega) (by omega)
      refine ⟨fun h0 => (by rw [hr] at h0; cases h0), fun i hi => ?_⟩
      rw [hr] at hi
      obtain rfl : i = k := by simpa using hi
      unfold wpOp
      simp only [hok]
      rw [if_pos (by simp [Region.wanted])]
      left
      unfold Oper.wp
      rw [hq.run a w _ _ _ _ hf hm]
      refine ⟨fun hkn => hm, ?_⟩
      rw [firsts_succ]
      exact hnx
  relab := fun hl h => ⟨fun hx k hk hH a w hf hmf hm => h.run hx k hk hH a w ⟨hf.size, fun t v ht => hf.get t v (hl t v ht), hf.defers⟩ hmf hm⟩

theorem C_draws2 {id : Nat} {l : List Oper} {Q : Exit → Act → World → Prop} (n nl : Nat) (H0 : List (Nat × Bk)) (hs : SubH H0 H) (hmix : P.follows .mixedOrders = true) (hx : lexA l.toArray n nl = true) (h : T2 P N B w0 l.toArray (Q .normal) n nl H H0 l L H0) : C P N B w0 (.region id l.toArray true) Q L H := by
  refine ⟨fun a w hf hm => wp_mono (Q := Qn (Q .normal)) (wp_region_any hmix (wpT_any (S := Mem B w0 H0) (n := n) _ _ _ _ ?_)) fun e a' w' hq => ?_⟩
  · have h1 := h.run hx 0 (by simp) rfl a { w with drawn := w.drawn + 1 } hf (hm.drawn _) ((hm.sub hs).drawn _)
    rw [firsts_zero] at h1
    simpa using h1
  · cases e with
    | normal => exact hq
    | _ => exact hq.elim

/-- A store to a block that is none of 'H0', while others may still come up behind it. -/
theorem T_store {e ty : TypeId} {pos : String} {af : Array Edge} {rest : List Oper} {p x : Operand} {q o b sz : Nat} {nn : Int} {c c' : Int → Value} {v : Value}
    (hnl : Nat.ble (rest.length + 1) (ops.size - nl) = true) (hn : Nat.ble (ops.size - n) (rest.length + 1) = true)
    (hq : lkH H q = some ⟨b, sz, nn, c⟩) (hp : ev L p = some (.pointer (some ⟨b, o, none⟩))) (hv : ev L x = some v) (he : Leaf P e) (h1 : v.oneCell' = true) (ho : (o : Int) < nn) (hs : SubH H0 H) (hq0 : lkH H0 q = none) (hc : upd c o v = c')
    (h : T P N B w0 ops K n nl H0 rest L ((q, ⟨b, sz, nn, c'⟩) :: H)) : T P N B w0 ops K n nl H0 (⟨none, .store e p x, ty, pos, af, none⟩ :: rest) L H := by
  refine T_step rfl hnl hn fun a w hf hm hm0 => ?_
  subst hc
  have hkn : nn ≤ (sz : Int) := (hm.ok q _ hq).1.1
  obtain ⟨w', hr, hM⟩ := hm.laid (P := P) hq (o := o) (vs := [v]) (n := nn) (show 0 < sz by omega) (show o + [v].length ≤ sz by simp; omega) (by simpa using h1) (.inl (Int.le_refl _))
  obtain ⟨_, i, hi, hsz⟩ := he
  have hcs : v.cells = #[v] := by cases v <;> simp [Value.oneCell'] at h1 <;> rfl
  rw [lay_one] at hM
  unfold Oper.wp
  simp only [execOp, hf.eval hp, hf.eval hv, Instr.storeAt, Instr.sureAddr, storeVar, sizeOf, typeInfo, program, hcs, Sem.run_bind, Sem.run_pure, Sem.run, Result.andThen_ok, hi, hsz]
  simp [hr]
  refine ⟨_, hf, _, hM, hM.weak fun r m hr' => ?_, h⟩
  rw [lkH_cons]
  by_cases e1 : q = r
  · subst e1; rw [hq0] at hr'; cases hr'
  · rw [if_neg e1]; exact hs.look hr'
end

theorem V_storeC {P : Program} {N : Nat} {B : Nat → Prop} {w0 : World} {ops : Array Oper} {Q : Exit → Act → World → Prop} {L : List (Nat × Value)} {H : List (Nat × Bk)} {e ty : TypeId} {pos : String} {af : Array Edge} {rest : List Oper} {p x : Operand} {q o b sz : Nat} {n : Int} {c c' : Int → Value} {v : Value}
    (hq : lkH H q = some ⟨b, sz, n, c⟩) (hp : ev L p = some (.pointer (some ⟨b, o, none⟩))) (hv : ev L x = some v) (he : Leaf P e) (h1 : v.oneCell' = true) (ho : (o : Int) < n) (hc : upd c o v = c')
    (h : V P N B w0 ops Q rest L ((q, ⟨b, sz, n, c'⟩) :: H)) : V P N B w0 ops Q (⟨none, .store e p x, ty, pos, af, none⟩ :: rest) L H := by
  subst hc
  exact V_store hq hp hv he h1 ho h
end Go.Proofs.Qxb6001236a
