/-
  OWN WORK. Kit F: structs laid in memory; several makes in an open order.
-/
import Derived.Test.Qxb6001236aKitE
namespace Go.Proofs.Qxb6001236a
open Go.RowKit
set_option linter.unusedSimpArgs false
set_option linter.unusedVariables false

section
variable {P : Program} {N : Nat} {B : Nat → Prop} {w0 : World} {ops : Array Oper} {Q : Exit → Act → World → Prop} {L : List (Nat × Value)} {H : List (Nat × Bk)}

/-- A struct's value, out of its parts. -/
theorem QY_build {t ty : TypeId} {parts : List (Nat × Operand)} {vs : List (Nat × Value)} {v : Value} (hp : ∀ a, Fr N L a → parts.map (fun p => (p.1, a.eval p.2)) = vs) (hr : ∀ w, (Instr.build t vs.toArray).run P w = .ok v w) :
    QY P N B w0 L H (.build t parts.toArray) ty v :=
  ⟨fun a w dst pos af g hf hm => by
    have h1 := hp a hf
    have h2 := hr w
    simp only [execOp, List.map_toArray, Sem.run_bind, h1, h2, Result.andThen_ok, Sem.run_pure]⟩

theorem box_mem {w : World} {cs : Array Value} (t : TypeId) (q : Nat) (hm : Mem B w0 H w) : (Instr.box t (.agg cs)).run P w = .ok (.pointer (some ⟨w.heap.size, 0, none⟩)) { w with heap := w.heap.push (.cells cs t) } ∧
    Mem B w0 ((q, ⟨w.heap.size, cs.size, cs.size, fl cs.toList⟩) :: H) { w with heap := w.heap.push (.cells cs t) } := by
  refine ⟨by simp [Instr.box, newVar, newRow, newObj, Sem.run, Value.cells], hm.alloc q cs t cs.size (fl cs.toList) (Int.le_refl _) (fun i h0 h1 => ?_)⟩
  have hlt : i.toNat < cs.size := by omega
  simp [fl, List.getD, hlt]

theorem V_box {d : Nat} {t ty : TypeId} {pos : String} {af : Array Edge} {rest : List Oper} {x : Operand} {cs : List Value} {m : Nat} {mi : Int} (q : Nat) (hx : ev L x = some (.agg cs.toArray)) (hm : cs.length = m) (hmi : (m : Int) = mi) (hd : Nat.ble (d + 1) N = true)
    (h : ∀ b, V P N B w0 ops Q rest ((d, .pointer (some ⟨b, 0, none⟩)) :: L) ((q, ⟨b, m, mi, fl cs⟩) :: H)) : V P N B w0 ops Q (⟨some d, .box t x, ty, pos, af, none⟩ :: rest) L H :=
  ⟨fun a w hf hmem => wpList_plain rfl fun K hK => by
    subst hm; subst hmi
    obtain ⟨h1, h2⟩ := box_mem (P := P) (cs := cs.toArray) t q hmem
    unfold Oper.wp
    simp only [execOp, hf.eval hx, Sem.run_bind, h1, Result.andThen_ok, Sem.run_pure]
    refine hK _ _ ((h _).run _ _ (hf.put hd _) ?_)
    simpa using h2⟩
end

/-- Whatever order from here on, all that was known at the region's head being held. -/
structure G (P : Program) (N : Nat) (B : Nat → Prop) (w0 : World) (ops : Array Oper) (K : Act → World → Prop) (H0 : List (Nat × Bk)) (f : Nat) (listed : Array Bool) (L : List (Nat × Value)) (H : List (Nat × Bk)) : Prop where
  run : ∀ a w, Fr N L a → Mem B w0 H w → Mem B w0 H0 w → wpT P ops K (Mem B w0 H0) ops.size f listed a w

section
variable {P : Program} {N : Nat} {B : Nat → Prop} {w0 : World} {ops : Array Oper} {K : Act → World → Prop} {H0 : List (Nat × Bk)} {f : Nat} {listed listed' : Array Bool} {L : List (Nat × Value)} {H : List (Nat × Bk)}

theorem tailB_all (ops : Array Oper) : tailB ops ops.size = true := by
  simp only [tailB, List.all_eq_true, List.mem_range]
  intro j hj
  simp [hj]

theorem G_take (i : Nat) {d : Nat} {op : Op} {ty : TypeId} {pos : String} {af : Array Edge} {v : Value} (hi : ops[i]? = some ⟨some d, op, ty, pos, af, none⟩)
    (hchk : (Region.noSelect ops && (Region.ready .any ops listed).contains i && Region.free .any ops listed i) = true) (hl : listed.setIfInBounds i true = listed') (hq : QY P N B w0 L H0 op ty v) (hd : Nat.ble (d + 1) N = true)
    (h : G P N B w0 ops K H0 f listed' ((d, v) :: L) H) : G P N B w0 ops K H0 (f + 1) listed L H := by
  simp only [Bool.and_eq_true] at hchk
  obtain ⟨⟨hsel, hr⟩, hfree⟩ := hchk
  refine ⟨fun a w hf hm h0 => ?_⟩
  refine wpT_first hi hsel (tailB_all ops) (Array.getElem?_eq_some_iff.1 hi).1 f listed a w (Region.free_spec hi hfree) (by simpa using hr) ⟨rfl, fun w' hw' => hq.run a w' _ _ _ _ hf hw'⟩ h0 ?_
  rw [hl]
  exact h.run _ w (hf.put hd v) hm h0

/-- One operation that may come up now, carried out. -/
def G1 (P : Program) (N : Nat) (B : Nat → Prop) (w0 : World) (ops : Array Oper) (K : Act → World → Prop) (H0 : List (Nat × Bk)) (f : Nat) (listed : Array Bool) (L : List (Nat × Value)) (H : List (Nat × Bk)) (i : Nat) : Prop :=
  ∃ o, ops[i]? = some o ∧ o.guard = none ∧ ∀ a w, Fr N L a → Mem B w0 H w → Mem B w0 H0 w → o.wp P a w (fun a' w' => ∃ L' H', Fr N L' a' ∧ Mem B w0 H' w' ∧ Mem B w0 H0 w' ∧ G P N B w0 ops K H0 f (listed.setIfInBounds i true) L' H') (Qn K)

theorem G_all {rs : List Nat} (hr : Region.ready .any ops listed = rs) (hne : rs.isEmpty = false) (h : ∀ i ∈ rs, G1 P N B w0 ops K H0 f listed L H i) : G P N B w0 ops K H0 (f + 1) listed L H := by
  refine ⟨fun a w hf hm h0 => ⟨fun e => by rw [hr] at e; rw [e] at hne; simp at hne, fun i hi => ?_⟩⟩
  rw [hr] at hi
  obtain ⟨o, ho, hg, hwp⟩ := h i hi
  unfold wpOp
  simp only [ho]
  rw [if_pos (by simp [Region.wanted, hg])]
  left
  refine Oper.wp_mono (fun a' w' h' => ?_) (hwp a w hf hm h0)
  obtain ⟨L', H', g1, g2, g3, g4⟩ := h'
  exact ⟨fun _ => g3, g4.run a' w' g1 g2 g3⟩

theorem G_end (hr : Region.ready .any ops listed = []) (h : X N B w0 K L H) : G P N B w0 ops K H0 0 listed L H :=
  ⟨fun a w hf hm h0 => ⟨hr, h.run a w hf hm⟩⟩

theorem G1_q {i d : Nat} {op : Op} {ty : TypeId} {pos : String} {af : Array Edge} {v : Value} (hi : ops[i]? = some ⟨some d, op, ty, pos, af, none⟩) (hq : QY P N B w0 L H op ty v) (hd : Nat.ble (d + 1) N = true) (hl : listed.setIfInBounds i true = listed')
    (h : G P N B w0 ops K H0 f listed' ((d, v) :: L) H) : G1 P N B w0 ops K H0 f listed L H i := by
  refine ⟨_, hi, rfl, fun a w hf hm hm0 => ?_⟩
  unfold Oper.wp
  rw [hq.run a w _ _ _ _ hf hm]
  refine ⟨_, _, hf.put hd _, hm, hm0, ?_⟩
  rw [hl]
  exact h
theorem G1_make {i d : Nat} {ty t e : TypeId} {pos : String} {af : Array Edge} {x y : Operand} {z : Value} {bytes : Nat} {kl kc : IntKind} {l c : Int} (q : Nat) (hi : ops[i]? = some ⟨some d, .makeSlice t x y, ty, pos, af, none⟩)
    (ht : MkT P t e z 1 bytes) (hz : z.cells = #[z]) (hx : ev L x = some (.int kl l)) (hy : ev L y = some (.int kc c)) (h0 : 0 ≤ l) (hlc : l ≤ c) (hb : (bytes : Int) * c ≤ 281474976710656) (hc : c ≤ 9223372036854775807) (hd : Nat.ble (d + 1) N = true)
    (hl : listed.setIfInBounds i true = listed')
    (h : ∀ b, G P N B w0 ops K H0 f listed' ((d, .slice (some ⟨b, 0, none⟩) l.toNat c.toNat) :: L) ((q, ⟨b, c.toNat, c, fun _ => z⟩) :: H)) : G1 P N B w0 ops K H0 f listed L H i := by
  refine ⟨_, hi, rfl, fun a w hf hm hm0 => ?_⟩
  have hr := run_makeSlice ht w kl kc l c h0 hlc hb hc
  have hsz : ((Array.range (c.toNat * 1)).map (z.cells[· % z.cells.size]!)).size = c.toNat := by simp
  have hA := hm.alloc q ((Array.range (c.toNat * 1)).map (z.cells[· % z.cells.size]!)) e c (fun _ => z) (by rw [hsz]; omega) (fun i i0 i1 => by
    have hlt : i.toNat < c.toNat := by omega
    simp [hz, Array.getElem?_range, hlt, Nat.mod_one])
  rw [hsz] at hA
  unfold Oper.wp
  simp only [execOp, hf.eval hx, hf.eval hy, Sem.run_bind, hr, Result.andThen_ok, Sem.run_pure]
  refine ⟨_, _, hf.put hd _, hA, hm0.push _ _, ?_⟩
  rw [hl]
  exact h _

theorem G1_box {i d : Nat} {t ty : TypeId} {pos : String} {af : Array Edge} {x : Operand} {cs : List Value} {m : Nat} {mi : Int} (q : Nat) (hi : ops[i]? = some ⟨some d, .box t x, ty, pos, af, none⟩) (hx : ev L x = some (.agg cs.toArray)) (hm : cs.length = m) (hmi : (m : Int) = mi) (hd : Nat.ble (d + 1) N = true)
    (hl : listed.setIfInBounds i true = listed') (h : ∀ b, G P N B w0 ops K H0 f listed' ((d, .pointer (some ⟨b, 0, none⟩)) :: L) ((q, ⟨b, m, mi, fl cs⟩) :: H)) : G1 P N B w0 ops K H0 f listed L H i := by
  refine ⟨_, hi, rfl, fun a w hf hmem hm0 => ?_⟩
  subst hm; subst hmi
  obtain ⟨h1, h2⟩ := box_mem (P := P) (cs := cs.toArray) t q hmem
  unfold Oper.wp
  simp only [execOp, hf.eval hx, Sem.run_bind, h1, Result.andThen_ok, Sem.run_pure]
  refine ⟨_, (q, ⟨w.heap.size, cs.length, cs.length, fl cs⟩) :: H, hf.put hd _, by simpa using h2, hm0.push _ _, ?_⟩
  rw [hl]; exact h _

theorem G1_buildSlice1 {i d : Nat} {ty t e : TypeId} {pos : String} {af : Array Edge} {x : Operand} {z v : Value} {bytes : Nat} (q : Nat) (hi : ops[i]? = some ⟨some d, .buildSlice t 1 #[(0, x)], ty, pos, af, none⟩)
    (ht : MkT P t e z 1 bytes) (hz : z.cells = #[z]) (hx : ev L x = some v) (hone : v.oneCell' = true) (hd : Nat.ble (d + 1) N = true) (hl : listed.setIfInBounds i true = listed')
    (h : ∀ b, G P N B w0 ops K H0 f listed' ((d, .slice (some ⟨b, 0, none⟩) 1 1) :: L) ((q, ⟨b, 1, 1, fun _ => v⟩) :: H)) : G1 P N B w0 ops K H0 f listed L H i := by
  refine ⟨_, hi, rfl, fun a w hf hm hm0 => ?_⟩
  obtain ⟨inf, hinf, hiz, hsz, hby⟩ := ht.info
  have hvc : v.cells = #[v] := by cases v <;> simp [Value.oneCell'] at hone <;> rfl
  have hbs : (Instr.buildSlice t 1 #[(0, v)]).run P w = .ok (.slice (some ⟨w.heap.size, 0, none⟩) 1 1) { w with heap := w.heap.push (.cells #[v] e) } := by
    simp [Instr.buildSlice, run_underlying ht.under, sizeOf, typeInfo, hinf, hsz, zeroValue, hiz, Instr.fill, hvc, hz, newRow, newObj, Sem.run, Array.range_succ, range0]
  have hA := hm.alloc q #[v] e 1 (fun _ => v) (by simp) (fun i h0 h1 => by
    have : i = 0 := by omega
    subst this; rfl)
  unfold Oper.wp
  simp only [execOp, hf.eval hx, List.map_toArray, List.map_cons, List.map_nil, Sem.run_bind, hbs, Result.andThen_ok, Sem.run_pure]
  refine ⟨_, _, hf.put hd _, hA, hm0.push _ _, ?_⟩
  rw [hl]
  exact h _

theorem G.sub {L' : List (Nat × Value)} {H' : List (Nat × Bk)} (hL : SubL L' L) (hH : ∀ q k, lkH H' q = some k → lkH H q = some k) (h : G P N B w0 ops K H0 f listed L' H') : G P N B w0 ops K H0 f listed L H :=
  ⟨fun a w hf hm h0 => h.run a w (hf.sub hL) (hm.weak hH) h0⟩

/-- A state of the region, told once and used on several ways. -/
theorem G_have {A : Type} (f' : Nat) (listed1 : Array Bool) (Lx : A → List (Nat × Value)) (Hx : A → List (Nat × Bk)) (h : ∀ y, G P N B w0 ops K H0 f' listed1 (Lx y) (Hx y)) (k : (∀ y, G P N B w0 ops K H0 f' listed1 (Lx y) (Hx y)) → G P N B w0 ops K H0 f listed L H) : G P N B w0 ops K H0 f listed L H := k h

theorem C_orders {id : Nat} {l : List Oper} {Q : Exit → Act → World → Prop} (hmix : P.follows .mixedOrders = true) (h : G P N B w0 l.toArray (Q .normal) H l.length (Array.replicate l.toArray.size false) L H) : C P N B w0 (.region id l.toArray true) Q L H := by
  refine ⟨fun a w hf hm => wp_mono (Q := Qn (Q .normal)) (wp_region_any hmix (wpT_any (S := Mem B w0 H) (n := l.toArray.size) _ _ _ _ ?_)) fun e a' w' hq => ?_⟩
  · have h1 := h.run a { w with drawn := w.drawn + 1 } hf (hm.drawn _) (hm.drawn _)
    simpa using h1
  · cases e with
    | normal => exact hq
    | _ => exact hq.elim
end

section
variable {P : Program} {N : Nat} {B : Nat → Prop} {w0 : World} {ops : Array Oper} {Q : Exit → Act → World → Prop} {L : List (Nat × Value)} {H : List (Nat × Bk)}
/-- '[]T{v}' -/
theorem V_lit1 {d : Nat} {ty t e : TypeId} {pos : String} {af : Array Edge} {rest : List Oper} {x : Operand} {z v : Value} {bytes : Nat} (q : Nat)
    (ht : MkT P t e z 1 bytes) (hz : z.cells = #[z]) (hx : ev L x = some v) (hone : v.oneCell' = true) (hd : Nat.ble (d + 1) N = true)
    (h : ∀ b, V P N B w0 ops Q rest ((d, .slice (some ⟨b, 0, none⟩) 1 1) :: L) ((q, ⟨b, 1, 1, fun _ => v⟩) :: H)) : V P N B w0 ops Q (⟨some d, .buildSlice t 1 #[(0, x)], ty, pos, af, none⟩ :: rest) L H :=
  ⟨fun a w hf hm => wpList_plain rfl fun K hK => by
    obtain ⟨inf, hinf, hiz, hsz, hby⟩ := ht.info
    have hvc : v.cells = #[v] := by cases v <;> simp [Value.oneCell'] at hone <;> rfl
    have hbs : (Instr.buildSlice t 1 #[(0, v)]).run P w = .ok (.slice (some ⟨w.heap.size, 0, none⟩) 1 1) { w with heap := w.heap.push (.cells #[v] e) } := by
      simp [Instr.buildSlice, run_underlying ht.under, sizeOf, typeInfo, hinf, hsz, zeroValue, hiz, Instr.fill, hvc, hz, newRow, newObj, Sem.run, Array.range_succ, range0]
    have hA := hm.alloc q #[v] e 1 (fun _ => v) (by simp) (fun i h0 h1 => by
      have : i = 0 := by omega
      subst this; rfl)
    unfold Oper.wp
    simp only [execOp, hf.eval hx, List.map_toArray, List.map_cons, List.map_nil, Sem.run_bind, hbs, Result.andThen_ok, Sem.run_pure]
    exact hK _ _ ((h _).run _ _ (hf.put hd _) hA)⟩

/-- 'xs[lo:hi]' of a slice at the head of a block of the call's own. -/
theorem run_sliceAt {t e : TypeId} {i : TypeInfo} (hu : P.underlying t = some (.slice e)) (hi : P.info? e = some i) (w : World) (a : Option Addr) (len cap : Nat) (lo hi' : Option Value) (l h : Nat)
    (hl : match lo with | none => l = 0 | some v => ∃ k, v = .int k (l : Int)) (hh : match hi' with | none => h = len | some v => ∃ k, v = .int k (h : Int)) (h1 : l ≤ h) (h2 : h ≤ cap) (h3 : len ≤ cap) :
    (Instr.sliceAt t (.slice a len cap) lo hi' none).run P w = .ok (.slice (if cap = l then a else a.map (·.add (l * i.size))) (h - l) (cap - l)) w := by
  have c1 : (l : Int) ≤ (h : Int) := by omega
  have c2 : (h : Int) ≤ (cap : Int) := by omega
  cases lo with
  | none =>
    simp only at hl; subst hl
    cases hi' with
    | none => simp only at hh; subst hh; simp [Instr.sliceAt, Instr.slice, run_underlying hu, Instr.sliceBounds, sizeOf, typeInfo, hi]
    | some v => obtain ⟨k, rfl⟩ := hh; simp [Instr.sliceAt, Instr.slice, run_underlying hu, Instr.sliceBounds, Instr.sliceBound, asIntOf, sizeOf, typeInfo, hi, h2]
  | some u =>
    obtain ⟨ku, rfl⟩ := hl
    cases hi' with
    | none => simp only at hh; subst hh; simp [Instr.sliceAt, Instr.slice, run_underlying hu, Instr.sliceBounds, Instr.sliceBound, asIntOf, sizeOf, typeInfo, hi, h1]
    | some v => obtain ⟨k, rfl⟩ := hh; simp [Instr.sliceAt, Instr.slice, run_underlying hu, Instr.sliceBounds, Instr.sliceBound, asIntOf, sizeOf, typeInfo, hi, h1, h2]
/-- 'xs[:h]' -/
theorem QY_slice_hi {t ty : TypeId} {sz : Nat} {x y : Operand} {a : Option Addr} {len cap : Nat} {k : IntKind} {m : Int} (ht : SlT P t sz) (hx : ev L x = some (.slice a len cap)) (hy : ev L y = some (.int k m)) (h0 : 0 ≤ m) (h1 : m ≤ (cap : Int)) (h2 : len ≤ cap) :
    QY P N B w0 L H (.slice t x none (some y) none) ty (.slice a m.toNat cap) :=
  ⟨fun ac w dst pos af g hf hm => by
    obtain ⟨e, i, e1, e2, e3⟩ := ht
    have hr := run_sliceAt (P := P) e1 e2 w a len cap none (some (.int k m)) 0 m.toNat rfl ⟨k, by congr 1; omega⟩ (by omega) (by omega) h2
    have hz : (if cap = 0 then a else a.map (·.add (0 * i.size))) = a := by cases a <;> simp [Addr.add]
    rw [hz] at hr
    simp only [execOp, hf.eval hx, Option.map_none, Option.map_some, hf.eval hy, Sem.run_bind, hr, Result.andThen_ok, Sem.run_pure, Nat.sub_zero]⟩
/-- 'xs[l:]', at least one element behind l. -/
theorem QY_slice_lo {t ty : TypeId} {x y : Operand} {b len cap : Nat} {k : IntKind} {m : Int} (ht : SlT P t 1) (hx : ev L x = some (.slice (some ⟨b, 0, none⟩) len cap)) (hy : ev L y = some (.int k m)) (h0 : 0 ≤ m) (h1 : m < (len : Int)) (h2 : len ≤ cap) :
    QY P N B w0 L H (.slice t x (some y) none none) ty (.slice (some ⟨b, m.toNat, none⟩) (len - m.toNat) (cap - m.toNat)) :=
  ⟨fun ac w dst pos af g hf hm => by
    obtain ⟨e, i, e1, e2, e3⟩ := ht
    have hr := run_sliceAt (P := P) e1 e2 w (some ⟨b, 0, none⟩) len cap (some (.int k m)) none m.toNat len ⟨k, by congr 1; omega⟩ rfl (by omega) h2 h2
    rw [if_neg (by omega), e3] at hr
    simp only [Option.map_some, Nat.mul_one, Addr.add_lit, Nat.zero_add] at hr
    simp only [execOp, hf.eval hx, Option.map_none, Option.map_some, hf.eval hy, Sem.run_bind, hr, Result.andThen_ok, Sem.run_pure]⟩
end

/-- The elements of a slice that begins at place 'o' of a block of the call's own. -/
theorem Rd_from {B : Nat → Prop} {w0 : World} {H : List (Nat × Bk)} {q b sz : Nat} {m : Int} {c : Int → Value} (hq : lkH H q = some ⟨b, sz, m, c⟩) {o n cap : Nat} (hn : (o : Int) + (n : Int) ≤ m) : Rd B w0 H (.slice (some ⟨b, o, none⟩) n cap) n (fun i => c ((o : Int) + i)) :=
  ⟨_, _, rfl, fun i h0 h1 => ⟨_, rfl, fun w hm => by
    have h2 : w.cell? ⟨b, ((o : Int) + i).toNat, none⟩ = some (c ((o : Int) + i)) := cell_own hm hq (i := (o : Int) + i) (by omega) (show (o : Int) + i < m by omega)
    have h3 : (⟨b, o, none⟩ : Addr).add i.toNat = ⟨b, ((o : Int) + i).toNat, none⟩ := by rw [Addr.add_lit]; congr 1; omega
    rw [h3]; exact h2⟩⟩

/-! ### '==' and '!=' on Bools -/
section
variable {P : Program} {N : Nat} {B : Nat → Prop} {w0 : World} {L : List (Nat × Value)} {H : List (Nat × Bk)} {ty : TypeId}
theorem run_equalIn_bool (w : World) (d : Nat) (t : TypeId) (a b : Bool) (h : P.underlying t = some .bool) : (Op.equalIn (d + 1) t (.bool a) (.bool b)).run P w = .ok (a == b) w := by
  simp [Op.equalIn, run_underlying h]
theorem QY_neqB {t t' : TypeId} {x y : Operand} {a b : Bool} (hu : P.underlying t = some .bool) (hx : ev L x = some (.bool a)) (hy : ev L y = some (.bool b)) : QY P N B w0 L H (.binOp .neq t x y t') ty (.bool (!(a == b))) :=
  ⟨fun ac w dst pos af g hf hm => by
    have hg : (eqGuard .neq t x y (.bool a) (.bool b)).run P w = .ok () w := by unfold eqGuard; simp
    have h3 : (binOp .neq t (.bool a) (.bool b)).run P w = .ok (.bool (!(a == b))) w := by
      simp only [binOp]
      simp [Op.equal, Op.maxDepth, run_equalIn_bool w 9999 t a b hu]
    simp only [execOp, hf.eval hx, hf.eval hy, Sem.run_bind, hg, h3, Result.andThen_ok, Sem.run_pure]⟩
end

/-! ### Bits of a byte -/
def band (m n : Int) : Int := ((BitVec.ofInt 8 m &&& BitVec.ofInt 8 n).toNat : Int)
def bor (m n : Int) : Int := ((BitVec.ofInt 8 m ||| BitVec.ofInt 8 n).toNat : Int)
def bandn (m n : Int) : Int := ((BitVec.ofInt 8 m &&& ~~~ BitVec.ofInt 8 n).toNat : Int)
theorem wrap_u8_bv (x : BitVec 8) : IntKind.u8.wrap (x.toNat : Int) = (x.toNat : Int) := wrap_fits (k := .u8) ⟨by omega, by have := x.isLt; omega⟩
section
variable {P : Program} {N : Nat} {B : Nat → Prop} {w0 : World} {L : List (Nat × Value)} {H : List (Nat × Bk)} {ty : TypeId}
theorem QY_and {t t' : TypeId} {x y : Operand} {m n : Int} (hx : ev L x = some (.int .u8 m)) (hy : ev L y = some (.int .u8 n)) : QY P N B w0 L H (.binOp .and t x y t') ty (.int .u8 (band m n)) :=
  ⟨fun a w dst pos af g hf hm => by
    have hg := eqGuard_int (P := P) .and t x y .u8 .u8 m n w
    simp only [execOp, hf.eval hx, hf.eval hy, Sem.run_bind, hg, Result.andThen_ok, binOp, Op.intBits, ne_eq, not_true, if_false, Sem.run_pure]
    simp only [IntKind.bits, wrap_u8_bv, band]
    rfl⟩
theorem QY_or {t t' : TypeId} {x y : Operand} {m n : Int} (hx : ev L x = some (.int .u8 m)) (hy : ev L y = some (.int .u8 n)) : QY P N B w0 L H (.binOp .or t x y t') ty (.int .u8 (bor m n)) :=
  ⟨fun a w dst pos af g hf hm => by
    have hg := eqGuard_int (P := P) .or t x y .u8 .u8 m n w
    simp only [execOp, hf.eval hx, hf.eval hy, Sem.run_bind, hg, Result.andThen_ok, binOp, Op.intBits, ne_eq, not_true, if_false, Sem.run_pure]
    simp only [IntKind.bits, wrap_u8_bv, bor]
    rfl⟩
theorem QY_andNot {t t' : TypeId} {x y : Operand} {m n : Int} (hx : ev L x = some (.int .u8 m)) (hy : ev L y = some (.int .u8 n)) : QY P N B w0 L H (.binOp .andNot t x y t') ty (.int .u8 (bandn m n)) :=
  ⟨fun a w dst pos af g hf hm => by
    have hg := eqGuard_int (P := P) .andNot t x y .u8 .u8 m n w
    simp only [execOp, hf.eval hx, hf.eval hy, Sem.run_bind, hg, Result.andThen_ok, binOp, Op.intBits, ne_eq, not_true, if_false, Sem.run_pure]
    simp only [IntKind.bits, wrap_u8_bv, bandn]
    rfl⟩
end
end Go.Proofs.Qxb6001236a
