/-
  OWN WORK. Kit G: boxes, closures, elements of two cells, copy, a drawn region whose store may come ahead of a read.
-/
import Derived.Test.Qxb6001236aKitF
namespace Go.Proofs.Qxb6001236a
open Go.RowKit
set_option linter.unusedSimpArgs false
set_option linter.unusedVariables false

section
variable {P : Program} {N : Nat} {B : Nat → Prop} {w0 : World} {L : List (Nat × Value)} {H : List (Nat × Bk)} {ty : TypeId}

theorem QY_cell {t : TypeId} {x : Operand} {q b sz o : Nat} {n : Int} {c : Int → Value} {v : Value} (ht : Leaf P t) (hq : lkH H q = some ⟨b, sz, n, c⟩) (hx : ev L x = some (.pointer (some ⟨b, o, none⟩))) (ho : (o : Int) < n) (hv : c (o : Int) = v) :
    QY P N B w0 L H (.load t x) ty v :=
  QY_load ht hx fun w hm => by
    have := cell_own hm hq (i := (o : Int)) (by omega) ho
    rw [← hv]
    simpa using this
theorem QY_index2 {t : TypeId} {sz : Nat} {x y : Operand} {b o n c : Nat} {k : IntKind} {m : Int} {o' : Nat} (ht : SlT P t sz) (hx : ev L x = some (.slice (some ⟨b, o, none⟩) n c)) (hy : ev L y = some (.int k m)) (h0 : 0 ≤ m) (h1 : m < (n : Int)) (ho : o + m.toNat * sz = o') :
    QY P N B w0 L H (.indexAddr t x y) ty (.pointer (some ⟨b, o', none⟩)) := by
  have h := QY_index (P := P) (N := N) (B := B) (w0 := w0) (L := L) (H := H) (ty := ty) ht hx hy h0 h1
  rw [Addr.add_lit, ho] at h
  exact h
theorem QY_fieldP {t : TypeId} {x : Operand} {j off b o : Nat} {o' : Nat} (ht : FieldAt P t j off) (hx : ev L x = some (.pointer (some ⟨b, o, none⟩))) (ho : o + off = o') : QY P N B w0 L H (.fieldAddr t x j) ty (.pointer (some ⟨b, o', none⟩)) := by
  have h := QY_field (P := P) (N := N) (B := B) (w0 := w0) (L := L) (H := H) (ty := ty) ht hx
  rw [Addr.add_lit, ho] at h
  exact h
theorem QY_func {f : FuncId} {xs : List Operand} {vs : List Value} (hxs : evs L xs = some vs) : QY P N B w0 L H (.makeFunc (.func f) #[] xs.toArray) ty (.func (.func f) #[] vs.toArray) :=
  ⟨fun a w dst pos af g hf hm => by
    have ha := evs_eval hf xs vs hxs
    simp [execOp, Instr.makeFunc, ← ha]⟩
theorem QY_min {x y : Operand} {ats : Array TypeId} {k : IntKind} {m n z : Int} (hx : ev L x = some (.int k m)) (hy : ev L y = some (.int k n)) (hz : (if n < m then n else m) = z) : QY P N B w0 L H (.call { callee := .builtin .min, args := #[x, y], argTypes := ats }) ty (.int k z) :=
  ⟨fun a w dst pos af g hf hm => by
    subst hz
    simp [execOp, resolve, invoke, builtin, Builtin.min_, Builtin.min2, hf.eval hx, hf.eval hy]⟩
/-- 'xs[0:h]' -/
theorem QY_slice_0hi {t : TypeId} {sz : Nat} {x y z : Operand} {a : Option Addr} {len cap : Nat} {k k' : IntKind} {m0 m : Int} (ht : SlT P t sz) (hx : ev L x = some (.slice a len cap)) (hy : ev L y = some (.int k' m0)) (hz : ev L z = some (.int k m)) (hm0 : m0 = 0) (h0 : 0 ≤ m) (h1 : m ≤ (cap : Int)) (h2 : len ≤ cap) :
    QY P N B w0 L H (.slice t x (some y) (some z) none) ty (.slice a m.toNat cap) :=
  ⟨fun ac w dst pos af g hf hm => by
    subst hm0
    obtain ⟨e, i, e1, e2, e3⟩ := ht
    have hr := run_sliceAt (P := P) e1 e2 w a len cap (some (.int k' 0)) (some (.int k m)) 0 m.toNat ⟨k', rfl⟩ ⟨k, by congr 1; omega⟩ (by omega) (by omega) h2
    have hc : (if cap = 0 then a else a.map (·.add (0 * i.size))) = a := by cases a <;> simp [Addr.add]
    rw [hc] at hr
    simp only [execOp, hf.eval hx, Option.map_none, Option.map_some, hf.eval hy, hf.eval hz, Sem.run_bind, hr, Result.andThen_ok, Sem.run_pure, Nat.sub_zero]⟩
end

section
variable {P : Program} {N : Nat} {B : Nat → Prop} {w0 : World} {ops : Array Oper} {Q : Exit → Act → World → Prop} {L : List (Nat × Value)} {H : List (Nat × Bk)}

theorem V_box1 {d : Nat} {t ty : TypeId} {pos : String} {af : Array Edge} {rest : List Oper} {x : Operand} {v : Value} (q : Nat) (hx : ev L x = some v) (h1 : v.oneCell' = true) (hd : Nat.ble (d + 1) N = true)
    (h : ∀ b, V P N B w0 ops Q rest ((d, .pointer (some ⟨b, 0, none⟩)) :: L) ((q, ⟨b, 1, 1, fun _ => v⟩) :: H)) : V P N B w0 ops Q (⟨some d, .box t x, ty, pos, af, none⟩ :: rest) L H :=
  ⟨fun a w hf hmem => wpList_plain rfl fun K hK => by
    have hvc : v.cells = #[v] := by cases v <;> simp [Value.oneCell'] at h1 <;> rfl
    have hb : (Instr.box t v).run P w = .ok (.pointer (some ⟨w.heap.size, 0, none⟩)) { w with heap := w.heap.push (.cells #[v] t) } := by
      simp [Instr.box, newVar, newRow, newObj, Sem.run, hvc]
    have hA := hmem.alloc q #[v] t 1 (fun _ => v) (by simp) (fun i h0 h1 => by
      have : i = 0 := by omega
      subst this; rfl)
    unfold Oper.wp
    simp only [execOp, hf.eval hx, Sem.run_bind, hb, Result.andThen_ok, Sem.run_pure]
    exact hK _ _ ((h _).run _ _ (hf.put hd _) hA)⟩

theorem V_alloc {d : Nat} {t ty : TypeId} {pos : String} {af : Array Edge} {rest : List Oper} {z : Value} (q : Nat) (hz : (P.info? t).map (·.zero) = some (some z)) (h1 : z.oneCell' = true) (hd : Nat.ble (d + 1) N = true)
    (h : ∀ b, V P N B w0 ops Q rest ((d, .pointer (some ⟨b, 0, none⟩)) :: L) ((q, ⟨b, 1, 1, fun _ => z⟩) :: H)) : V P N B w0 ops Q (⟨some d, .alloc t, ty, pos, af, none⟩ :: rest) L H :=
  ⟨fun a w hf hmem => wpList_plain rfl fun K hK => by
    have hvc : z.cells = #[z] := by cases z <;> simp [Value.oneCell'] at h1 <;> rfl
    obtain ⟨i, hi, hiz⟩ := Option.map_eq_some_iff.1 hz
    have hb : (Instr.alloc t true (.tuple #[])).run P w = .ok (.pointer (some ⟨w.heap.size, 0, none⟩)) { w with heap := w.heap.push (.cells #[z] t) } := by
      simp [Instr.alloc, zeroValue, typeInfo, hi, hiz, newVar, newRow, newObj, Sem.run, hvc]
    have hA := hmem.alloc q #[z] t 1 (fun _ => z) (by simp) (fun i h0 h1 => by
      have : i = 0 := by omega
      subst this; rfl)
    unfold Oper.wp
    simp only [execOp, Sem.run_bind, hb, Result.andThen_ok, Sem.run_pure]
    exact hK _ _ ((h _).run _ _ (hf.put hd _) hA)⟩

/-- A call of a closure. -/
theorem V_callv {d : Nat} {ty : TypeId} {pos : String} {af : Array Edge} {rest : List Oper} {f : FuncId} {x : Operand} {xs : List Operand} {vs cs : List Value} {ats : Array TypeId} {T : Type} {Φ : T → Prop} {val : T → Value} {H' : T → List (Nat × Bk)}
    (hf : Callable P f) (hx : ev L x = some (.func (.func f) #[] cs.toArray)) (hxs : evs L xs = some vs)
    (hc : ∀ w, Mem B w0 H w → Calls P f (vs ++ cs).toArray w (fun e w' => ∃ y, Φ y ∧ e = .returned (val y) ∧ Mem B w0 (H' y) w')) (hd : Nat.ble (d + 1) N = true)
    (h : ∀ y, Φ y → V P N B w0 ops Q rest ((d, val y) :: L) (H' y)) :
    V P N B w0 ops Q (⟨some d, .call { callee := .value x, args := xs.toArray, argTypes := ats }, ty, pos, af, none⟩ :: rest) L H :=
  ⟨fun a w hfr hm => wpList_plain rfl fun K hK => by
    obtain ⟨fn, h1, h2, h3⟩ := hf
    have ha := evs_eval hfr xs vs hxs
    have hx' := hfr.eval hx
    have hrun : (execOp a.eval ⟨some d, .call { callee := .value x, args := xs.toArray, argTypes := ats }, ty, pos, af, none⟩).run P w = .ok (.enter f (vs ++ cs).toArray) w := by
      have hb : ¬ fn.body = none := fun e => by rw [e] at h3; simp at h3
      have hn : ¬ fn.name = "runtime.NumGoroutine" := fun e => by rw [e] at h2; simp at h2
      simp [execOp, resolve, hx', Deferred.ofValue, invoke, callFunc, program, Sem.run, h1, hb, hn, ← ha]
    unfold Oper.wp
    rw [hrun]
    refine (hc w hm).mono fun e w' ⟨y, hy, he, hM⟩ => ?_
    subst he
    exact hK _ _ ((h y hy).run _ _ (hfr.put hd _) hM)⟩

/-- 'copy(dst, src)': both of one cell, the destination a block of the call's own, room enough. -/
theorem V_copy {d : Nat} {ty t t' e : TypeId} {pos : String} {af : Array Edge} {rest : List Oper} {x y : Operand} {z : Value} {bytes q b sz n cap m : Nat} {kn : Int} {c cs : Int → Value} {sv : Value}
    (ht : MkT P t e z 1 bytes) (hq : lkH H q = some ⟨b, sz, kn, c⟩) (hx : ev L x = some (.slice (some ⟨b, 0, none⟩) n cap)) (hy : ev L y = some sv) (hr : Rd B w0 H sv m cs) (hmn : m ≤ n) (hn : (n : Int) ≤ kn) (h1 : ∀ i, 0 ≤ i → i < (m : Int) → (cs i).oneCell' = true) (hd : Nat.ble (d + 1) N = true)
    (h : V P N B w0 ops Q rest ((d, .int .i64 (m : Int)) :: L) ((q, ⟨b, sz, kn, fun i => if 0 ≤ i ∧ i < (m : Int) then cs i else c i⟩) :: H)) :
    V P N B w0 ops Q (⟨some d, .call { callee := .builtin .copy, args := #[x, y], argTypes := #[t, t'] }, ty, pos, af, none⟩ :: rest) L H :=
  ⟨fun a w hf hm => wpList_plain rfl fun K hK => by
    obtain ⟨i, hi, hiz, hsz, hby⟩ := ht.info
    obtain ⟨ao, cp, rfl, hcells⟩ := hr
    have hfc : (Builtin.firstCells 1 m (.slice ao m cp)).run P w = .ok ((List.range m).map fun (j : Nat) => cs (j : Int)).toArray w := by
      by_cases hm0 : m = 0
      · subst hm0
        cases ao with
        | none => simp [Builtin.firstCells]
        | some ad =>
          have := run_firstCells_some (P := P) w 1 0 ad 0 cp [] rfl (by simp)
          simpa using this
      · obtain ⟨ad, rfl, hcell⟩ := hcells 0 (by omega) (by omega)
        refine run_firstCells_some (P := P) w 1 m ad m cp _ (by simp) fun j v hj => ?_
        obtain ⟨hjl, rfl⟩ := range_map_get hj
        obtain ⟨ad', he, hc⟩ := hcells (j : Int) (by omega) (by omega)
        obtain rfl := Option.some.inj he
        simpa using hc w hm
    have hmem : ∃ w', (storeCells ⟨b, 0, none⟩ ((List.range m).map fun (j : Nat) => cs (j : Int)) 0).run P w = .ok () w' ∧ Mem B w0 ((q, ⟨b, sz, kn, fun i => if 0 ≤ i ∧ i < (m : Int) then cs i else c i⟩) :: H) w' := by
      by_cases hm0 : m = 0
      · subst hm0
        refine ⟨w, by simp [storeCells], ?_⟩
        refine hm.say hq (Int.le_refl _) fun i h0 h1 => ?_
        show _ = c i
        rw [if_neg (by omega)]
      · have hkn : kn ≤ (sz : Int) := (hm.ok q _ hq).1.1
        obtain ⟨w', r1, r2⟩ := hm.laid (P := P) hq (o := 0) (vs := (List.range m).map fun (j : Nat) => cs (j : Int)) (n := kn) (show 0 < sz by omega) (by simp; show m ≤ sz; omega) (fun v hv => by
          obtain ⟨j, hj, rfl⟩ := List.mem_map.1 hv
          exact h1 _ (by omega) (by have := List.mem_range.1 hj; omega)) (.inl (Int.le_refl _))
        refine ⟨w', r1, ?_⟩
        have hce : lay c ((0 : Nat) : Int) ((List.range m).map fun (j : Nat) => cs (j : Int)) = fun i => if 0 ≤ i ∧ i < (m : Int) then cs i else c i := by
          funext i
          simp only [lay, List.length_map, List.length_range]
          by_cases hc : 0 ≤ i ∧ i < (m : Int)
          · rw [if_pos (by omega), if_pos hc]
            have hlt : (i - ((0 : Nat) : Int)).toNat < m := by omega
            rw [List.getD_eq_getElem?_getD, List.getElem?_map, List.getElem?_range hlt]
            show cs _ = cs i
            congr 1; omega
          · rw [if_neg (by omega), if_neg hc]
        have r2' := r2
        rw [hce] at r2'
        exact r2'
    obtain ⟨w', r1, r2⟩ := hmem
    unfold Oper.wp
    have hmin : Nat.min m n = m := Nat.min_eq_left hmn
    have hso : (sizeOf e).run P w = .ok 1 w := by simp [sizeOf, typeInfo, hi, hsz]
    simp only [execOp, resolve, invoke, builtin, Builtin.copy_, List.map_toArray, List.map_cons, List.map_nil, hf.eval hx, hf.eval hy, Sem.run_bind, Sem.run_pure, Result.andThen_ok, run_underlying ht.under, Builtin.lenOf, List.getElem?_toArray, List.getElem?_cons_zero, List.getElem?_cons_succ, hso, hmin, hfc, r1]
    exact hK _ _ (h.run _ _ (hf.put hd _) r2)⟩
end
end Go.Proofs.Qxb6001236a
