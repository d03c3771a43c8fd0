/-
  OWN WORK. Kit M: slices of slices, copy in a drawn region.
-/
import Derived.Test.Qxb6001236aKitL
import Derived.DataElems
namespace Go.Proofs.Qxb6001236a
open Go.RowKit
set_option linter.unusedSimpArgs false
set_option linter.unusedVariables false

def subA (a : Option Addr) (cap l : Nat) : Option Addr := if cap = l then a else a.map (·.add (l * 1))
section
variable {P : Program} {N : Nat} {B : Nat → Prop} {w0 : World} {L : List (Nat × Value)} {H : List (Nat × Bk)} {ty : TypeId}
theorem QY_slice_lohi {t : TypeId} {x y z : Operand} {a : Option Addr} {len cap : Nat} {k k' : IntKind} {m m' : Int} (ht : SlT P t 1) (hx : ev L x = some (.slice a len cap)) (hy : ev L y = some (.int k m)) (hz : ev L z = some (.int k' m')) (h0 : 0 ≤ m) (h1 : m ≤ m') (h2 : m' ≤ (cap : Int)) (h3 : len ≤ cap) :
    QY P N B w0 L H (.slice t x (some y) (some z) none) ty (.slice (subA a cap m.toNat) (m'.toNat - m.toNat) (cap - m.toNat)) :=
  ⟨fun ac w dst pos af g hf hm => by
    obtain ⟨e, i, e1, e2, e3⟩ := ht
    have hr := run_sliceAt (P := P) e1 e2 w a len cap (some (.int k m)) (some (.int k' m')) m.toNat m'.toNat ⟨k, by congr 1; omega⟩ ⟨k', by congr 1; omega⟩ (by omega) (by omega) h3
    rw [e3] at hr
    simp only [execOp, hf.eval hx, Option.map_none, Option.map_some, hf.eval hy, hf.eval hz, Sem.run_bind, hr, Result.andThen_ok, Sem.run_pure]
    rfl⟩
theorem QY_slice_from {t : TypeId} {x y : Operand} {a : Option Addr} {len cap : Nat} {k : IntKind} {m : Int} (ht : SlT P t 1) (hx : ev L x = some (.slice a len cap)) (hy : ev L y = some (.int k m)) (h0 : 0 ≤ m) (h1 : m ≤ (len : Int)) (h3 : len ≤ cap) :
    QY P N B w0 L H (.slice t x (some y) none none) ty (.slice (subA a cap m.toNat) (len - m.toNat) (cap - m.toNat)) :=
  ⟨fun ac w dst pos af g hf hm => by
    obtain ⟨e, i, e1, e2, e3⟩ := ht
    have hr := run_sliceAt (P := P) e1 e2 w a len cap (some (.int k m)) none m.toNat len ⟨k, by congr 1; omega⟩ rfl (by omega) h3 h3
    rw [e3] at hr
    simp only [execOp, hf.eval hx, Option.map_none, Option.map_some, hf.eval hy, Sem.run_bind, hr, Result.andThen_ok, Sem.run_pure]
    rfl⟩
theorem subA_own {b cap l n : Nat} (h : l < cap) : subA (some ⟨b, 0, none⟩) cap l = some ⟨b, l, none⟩ := by
  unfold subA
  rw [if_neg (by omega)]
  simp [Addr.add_lit]
theorem Rd_sub {B : Nat → Prop} {w0 : World} {H : List (Nat × Bk)} {a : Option Addr} {n cap : Nat} {c : Int → Value} (h : Rd B w0 H (.slice a n cap) n c) {l r : Nat} (hlr : l ≤ r) (hr : r ≤ n) (hc : n ≤ cap) : Rd B w0 H (.slice (subA a cap l) (r - l) (cap - l)) (r - l) (fun i => c ((l : Int) + i)) := by
  obtain ⟨a', cap', he, hcell⟩ := h
  simp only [Value.slice.injEq] at he
  obtain ⟨rfl, _, rfl⟩ := he
  refine ⟨_, _, rfl, fun i h0 h1 => ?_⟩
  obtain ⟨x, hx, hw⟩ := hcell ((l : Int) + i) (by omega) (by omega)
  refine ⟨x.add l, ?_, fun w hm => ?_⟩
  · unfold subA
    rw [if_neg (by omega), hx]
    simp
  · rw [Addr.add_add]
    have := hw w hm
    rw [show ((l : Int) + i).toNat = l + i.toNat from by omega] at this
    exact this
end

section
variable {P : Program} {N : Nat} {B : Nat → Prop} {w0 : World} {ops : Array Oper} {K : Act → World → Prop} {n nl : Nat} {H0 : List (Nat × Bk)} {L : List (Nat × Value)} {H : List (Nat × Bk)}
/-- 'copy(dst, src)', the region's last, to a block that is none of 'H0'. -/
theorem T_copy {d : Nat} {ty t t' e : TypeId} {pos : String} {af : Array Edge} {rest : List Oper} {x y : Operand} {z : Value} {bytes q b sz p dl dc m : Nat} {kn : Int} {c cs : Int → Value} {sv : Value} {ad : Option Addr}
    (hnl : Nat.ble (rest.length + 1) (ops.size - nl) = true) (hn : Nat.ble (ops.size - n) (rest.length + 1) = true)
    (ht : MkT P t e z 1 bytes) (hq : lkH H q = some ⟨b, sz, kn, c⟩) (hx : ev L x = some (.slice ad dl dc)) (hy : ev L y = some sv) (hr : Rd B w0 H sv m cs) (had : 0 < m → ad = some ⟨b, p, none⟩) (hml : m ≤ dl) (hpk : ((p + m : Nat) : Int) ≤ kn) (h1 : ∀ i, 0 ≤ i → i < (m : Int) → (cs i).oneCell' = true) (hd : Nat.ble (d + 1) N = true) (hs : SubH H0 H) (hq0 : lkH H0 q = none)
    (h : T P N B w0 ops K n nl H0 rest ((d, .int .i64 (m : Int)) :: L) ((q, ⟨b, sz, kn, fun i => if (p : Int) ≤ i ∧ i < ((p + m : Nat) : Int) then cs (i - p) else c i⟩) :: H)) :
    T P N B w0 ops K n nl H0 (⟨some d, .call { callee := .builtin .copy, args := #[x, y], argTypes := #[t, t'] }, ty, pos, af, none⟩ :: rest) L H := by
  refine T_step rfl hnl hn fun a w hf hm hm0 => ?_
  obtain ⟨i, hi, hiz, hsz, hby⟩ := ht.info
  obtain ⟨ao, cp, rfl, hcells⟩ := hr
  have hfc : (Builtin.firstCells 1 m (.slice ao m cp)).run P w = .ok ((List.range m).map fun (j : Nat) => cs (j : Int)).toArray w := by
    by_cases hm9 : m = 0
    · subst hm9
      cases ao with
      | none => simp [Builtin.firstCells]
      | some ad' =>
        have := run_firstCells_some (P := P) w 1 0 ad' 0 cp [] rfl (by simp)
        simpa using this
    · obtain ⟨ad', rfl, hcell⟩ := hcells 0 (by omega) (by omega)
      refine run_firstCells_some (P := P) w 1 m ad' m cp _ (by simp) fun j v hj => ?_
      obtain ⟨hjl, rfl⟩ := range_map_get hj
      obtain ⟨ad2, he, hc⟩ := hcells (j : Int) (by omega) (by omega)
      obtain rfl := Option.some.inj he
      simpa using hc w hm
  have hst : ∃ w', (match ad with | some a' => storeCells a' ((List.range m).map fun (j : Nat) => cs (j : Int)) 0 | none => pure ()).run P w = .ok () w' ∧ Mem B w0 ((q, ⟨b, sz, kn, fun i => if (p : Int) ≤ i ∧ i < ((p + m : Nat) : Int) then cs (i - p) else c i⟩) :: H) w' := by
    by_cases hm9 : m = 0
    · subst hm9
      refine ⟨w, by cases ad <;> simp [storeCells], ?_⟩
      refine hm.say hq (Int.le_refl _) fun i h0 h1 => ?_
      show _ = c i
      rw [if_neg (by omega)]
    · have hkn : kn ≤ (sz : Int) := (hm.ok q _ hq).1.1
      obtain ⟨w', r1, r2⟩ := hm.laid (P := P) hq (o := p) (vs := (List.range m).map fun (j : Nat) => cs (j : Int)) (n := kn) (show 0 < sz by omega) (by simp; show p + m ≤ sz; omega) (fun v hv => by
        obtain ⟨j, hj, rfl⟩ := List.mem_map.1 hv
        exact h1 _ (by omega) (by have := List.mem_range.1 hj; omega)) (.inl (Int.le_refl _))
      refine ⟨w', by rw [had (by omega)]; exact r1, ?_⟩
      have hce : lay c ((p : Nat) : Int) ((List.range m).map fun (j : Nat) => cs (j : Int)) = fun i => if (p : Int) ≤ i ∧ i < ((p + m : Nat) : Int) then cs (i - p) else c i := by
        funext i
        simp only [lay, List.length_map, List.length_range]
        by_cases hc : (p : Int) ≤ i ∧ i < ((p + m : Nat) : Int)
        · rw [if_pos (by omega), if_pos hc]
          have hlt : (i - (p : Int)).toNat < m := by omega
          rw [List.getD_eq_getElem?_getD, List.getElem?_map, List.getElem?_range hlt]
          show cs _ = cs _
          congr 1; omega
        · rw [if_neg (by omega), if_neg hc]
      have r2' := r2
      rw [hce] at r2'
      exact r2'
  obtain ⟨w', r1, r2⟩ := hst
  have hmin : Nat.min m dl = m := Nat.min_eq_left hml
  have hso : (sizeOf e).run P w = .ok 1 w := by simp [sizeOf, typeInfo, hi, hsz]
  have hrun : (execOp a.eval ⟨some d, .call { callee := .builtin .copy, args := #[x, y], argTypes := #[t, t'] }, ty, pos, af, none⟩).run P w = .ok (.value (.int .i64 (m : Int))) w' := by
    cases ad with
    | none =>
      simp only [execOp, resolve, invoke, builtin, Builtin.copy_, List.map_toArray, List.map_cons, List.map_nil, hf.eval hx, hf.eval hy, Sem.run_bind, Sem.run_pure, Result.andThen_ok, run_underlying ht.under, Builtin.lenOf, List.getElem?_toArray, List.getElem?_cons_zero, List.getElem?_cons_succ, hso, hmin, hfc]
      simp only [Sem.run_pure, Result.ok.injEq, true_and] at r1
      rw [r1]; rfl
    | some a' =>
      have r1' : (storeCells a' ((List.range m).map fun (j : Nat) => cs (j : Int)) 0).run P w = .ok () w' := r1
      simp only [execOp, resolve, invoke, builtin, Builtin.copy_, List.map_toArray, List.map_cons, List.map_nil, hf.eval hx, hf.eval hy, Sem.run_bind, Sem.run_pure, Result.andThen_ok, run_underlying ht.under, Builtin.lenOf, List.getElem?_toArray, List.getElem?_cons_zero, List.getElem?_cons_succ, hso, hmin, hfc, r1']
      rfl
  unfold Oper.wp
  rw [hrun]
  refine ⟨_, _, hf.put hd _, r2, r2.weak fun r k hr' => ?_, h⟩
  rw [lkH_cons]
  by_cases e1 : q = r
  · subst e1; rw [hq0] at hr'; cases hr'
  · rw [if_neg e1]; exact hs.look hr'
end
end Go.Proofs.Qxb6001236a
