/-
  OWN WORK. Kit K: structs loaded and stored whole; slices of structs made.
-/
import Derived.Test.Qxb6001236aKitJ
namespace Go.Proofs.Qxb6001236a
open Go.RowKit
set_option linter.unusedSimpArgs false
set_option linter.unusedVariables false

/-- A struct type of 'k' cells. -/
def AggT (P : Program) (t : TypeId) (k : Nat) (zs : List Value) : Prop := (∃ fs, P.underlying t = some (.struct fs)) ∧ ∃ i, P.info? t = some i ∧ i.size = k ∧ i.zero = some (.agg zs.toArray)

theorem run_loadCellsFrom {P : Program} (w : World) (ad : Addr) : ∀ (vs : List Value) (i : Nat) (acc : Array Value), (∀ j v, vs[j]? = some v → w.cell? (ad.add (i + j)) = some v) → (loadCellsFrom ad i vs.length acc).run P w = .ok (acc ++ vs.toArray) w
  | [], i, acc, _ => by simp [loadCellsFrom]
  | v :: r, i, acc, h => by
    have h0 := h 0 v rfl
    have hr := run_loadCellsFrom (P := P) w ad r (i + 1) (acc.push v) (fun j u hj => by
      have := h (j + 1) u (by simpa using hj)
      rw [show i + 1 + j = i + (j + 1) from by omega]; exact this)
    simp only [Nat.add_zero] at h0
    have hl : (load (ad.add i)).run P w = .ok v w := by simp [h0]
    simp only [List.length_cons, loadCellsFrom, Sem.run_bind, hl, Result.andThen_ok, hr]
    simp

section
variable {P : Program} {N : Nat} {B : Nat → Prop} {w0 : World} {L : List (Nat × Value)} {H : List (Nat × Bk)} {ty : TypeId}
theorem QY_loadA {t : TypeId} {x : Operand} {q b sz o k : Nat} {n : Int} {c : Int → Value} {vs zs : List Value} (ht : AggT P t k zs) (hq : lkH H q = some ⟨b, sz, n, c⟩) (hx : ev L x = some (.pointer (some ⟨b, o, none⟩))) (ho : ((o + k : Nat) : Int) ≤ n) (hl : vs.length = k) (hv : ∀ j v, vs[j]? = some v → c ((o + j : Nat) : Int) = v) :
    QY P N B w0 L H (.load t x) ty (.agg vs.toArray) :=
  ⟨fun a w dst pos af g hf hm => by
    obtain ⟨⟨fs, h1⟩, i, h2, h3, _⟩ := ht
    have hc := run_loadCellsFrom (P := P) w ⟨b, o, none⟩ vs 0 #[] (fun j v hj => by
      have hjl : j < k := by have := (List.getElem?_eq_some_iff.1 hj).1; omega
      have := cell_own hm hq (i := ((o + j : Nat) : Int)) (by omega) (by show _ < n; omega)
      rw [Nat.zero_add, Addr.add_lit, ← hv j v hj]
      have e9 : (((o + j : Nat) : Int)).toNat = o + j := by omega
      rw [e9] at this
      exact this)
    rw [hl] at hc
    simp only [execOp, hf.eval hx, Instr.loadAt, Instr.sureAddr, loadVar, isAgg, Sem.run_bind, run_underlying h1, Sem.run_pure, Result.andThen_ok, sizeOf, typeInfo, loadCells]
    simp [h2, h3, hc]⟩
end

section
variable {P : Program} {N : Nat} {B : Nat → Prop} {w0 : World} {ops : Array Oper} {Q : Exit → Act → World → Prop} {L : List (Nat × Value)} {H : List (Nat × Bk)}
/-- A struct, stored whole. -/
theorem V_storeA {t ty : TypeId} {pos : String} {af : Array Edge} {rest : List Oper} {p x : Operand} {q o b sz k : Nat} {n : Int} {c c' : Int → Value} {vs zs : List Value}
    (ht : AggT P t k zs) (hq : lkH H q = some ⟨b, sz, n, c⟩) (hp : ev L p = some (.pointer (some ⟨b, o, none⟩))) (hx : ev L x = some (.agg vs.toArray)) (hl : vs.length = k) (h1 : ∀ v ∈ vs, v.oneCell' = true) (hk : 0 < k) (ho : ((o + k : Nat) : Int) ≤ n) (hc : lay c ((o : Nat) : Int) vs = c')
    (h : V P N B w0 ops Q rest L ((q, ⟨b, sz, n, c'⟩) :: H)) : V P N B w0 ops Q (⟨none, .store t p x, ty, pos, af, none⟩ :: rest) L H :=
  ⟨fun a w hf hm => wpList_plain rfl fun K hK => by
    obtain ⟨_, i, h2, h3, _⟩ := ht
    have hkn : n ≤ (sz : Int) := (hm.ok q _ hq).1.1
    obtain ⟨w', hr, hM⟩ := hm.laid (P := P) hq (o := o) (vs := vs) (n := n) (show 0 < sz by omega) (show o + vs.length ≤ sz by omega) h1 (.inl (Int.le_refl _))
    have hcs : (Value.agg vs.toArray).cells = vs.toArray := rfl
    subst hc
    unfold Oper.wp
    simp only [execOp, hf.eval hp, hf.eval hx, Instr.storeAt, Instr.sureAddr, storeVar, sizeOf, typeInfo, program, hcs, Sem.run_bind, Sem.run_pure, Sem.run, Result.andThen_ok, h2, h3]
    simp [hr, hl]
    exact hK _ _ (h.run _ _ hf hM)⟩
/-- A variable of a struct type. -/
theorem V_allocA {d : Nat} {t ty : TypeId} {pos : String} {af : Array Edge} {rest : List Oper} {k : Nat} {zs : List Value} (q : Nat) (ht : AggT P t k zs) (hl : zs.length = k) (hd : Nat.ble (d + 1) N = true)
    (h : ∀ b, V P N B w0 ops Q rest ((d, .pointer (some ⟨b, 0, none⟩)) :: L) ((q, ⟨b, k, k, fl zs⟩) :: H)) : V P N B w0 ops Q (⟨some d, .alloc t, ty, pos, af, none⟩ :: rest) L H :=
  ⟨fun a w hf hmem => wpList_plain rfl fun K hK => by
    obtain ⟨_, i, h2, h3, h4⟩ := ht
    have hb : (Instr.alloc t true (.tuple #[])).run P w = .ok (.pointer (some ⟨w.heap.size, 0, none⟩)) { w with heap := w.heap.push (.cells zs.toArray t) } := by
      simp [Instr.alloc, zeroValue, typeInfo, h2, h4, newVar, newRow, newObj, Sem.run, Value.cells]
    have hA := hmem.alloc q zs.toArray t k (fl zs) (by simp [hl]) (fun i h0 h1 => by
      have hlt : i.toNat < zs.length := by omega
      simp [fl, List.getD, hlt])
    have hsz : zs.toArray.size = k := by simp [hl]
    rw [hsz] at hA
    unfold Oper.wp
    simp only [execOp, Sem.run_bind, hb, Result.andThen_ok, Sem.run_pure]
    exact hK _ _ ((h _).run _ _ (hf.put hd _) hA)⟩
/-- A slice of structs. -/
theorem V_makeA {d : Nat} {ty t e : TypeId} {pos : String} {af : Array Edge} {rest : List Oper} {x y : Operand} {z : Value} {bytes k : Nat} {kl kc : IntKind} {l : Nat} (q : Nat)
    (ht : MkT P t e z k bytes) (hx : ev L x = some (.int kl (l : Int))) (hy : ev L y = some (.int kc (l : Int))) (hb : (bytes : Int) * l ≤ 281474976710656) (hc : (l : Int) ≤ 9223372036854775807) (hd : Nat.ble (d + 1) N = true)
    (h : ∀ b, V P N B w0 ops Q rest ((d, .slice (some ⟨b, 0, none⟩) l l) :: L) ((q, ⟨b, l * k, ((l * k : Nat) : Int), fun i => z.cells.getD (i.toNat % k) undef⟩) :: H)) :
    V P N B w0 ops Q (⟨some d, .makeSlice t x y, ty, pos, af, none⟩ :: rest) L H :=
  ⟨fun a w hf hm => wpList_plain rfl fun K hK => by
    have hr := run_makeSlice ht w kl kc (l : Int) (l : Int) (by omega) (Int.le_refl _) hb hc
    have hk := ht.pos
    have hcs := ht.cells
    have hsz : ((Array.range ((l : Int).toNat * k)).map (z.cells[· % z.cells.size]!)).size = l * k := by simp
    have hA := hm.alloc q ((Array.range ((l : Int).toNat * k)).map (z.cells[· % z.cells.size]!)) e ((l * k : Nat) : Int) (fun i => z.cells.getD (i.toNat % k) undef) (by rw [hsz]; omega) (fun i i0 i1 => by
      have hlt : i.toNat < l * k := by omega
      have hm2 : i.toNat % k < z.cells.size := by rw [hcs]; exact Nat.mod_lt _ hk
      have hl9 : (l : Int).toNat = l := by omega
      simp only [hl9, Array.getElem?_map, Array.getElem?_range, hlt, if_true, Option.map_some, hcs]
      congr 1
      rw [getElem!_pos z.cells (i.toNat % k) hm2]
      simp [hm2])
    rw [hsz] at hA
    unfold Oper.wp
    simp only [execOp, hf.eval hx, hf.eval hy, Sem.run_bind, hr, Result.andThen_ok, Sem.run_pure]
    exact hK _ _ ((h _).run _ _ (hf.put hd _) hA)⟩
end
end Go.Proofs.Qxb6001236a
