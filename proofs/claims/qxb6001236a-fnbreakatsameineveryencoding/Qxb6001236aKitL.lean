/-
  OWN WORK. Kit L: '[]T{}', and an append of many to it.
-/
import Derived.Test.Qxb6001236aKitK
namespace Go.Proofs.Qxb6001236a
open Go.RowKit
set_option linter.unusedSimpArgs false
set_option linter.unusedVariables false
section
variable {P : Program} {N : Nat} {B : Nat → Prop} {w0 : World} {ops : Array Oper} {Q : Exit → Act → World → Prop} {L : List (Nat × Value)} {H : List (Nat × Bk)}
theorem V_lit0 {d : Nat} {ty t e : TypeId} {pos : String} {af : Array Edge} {rest : List Oper} {z : Value} {bytes : Nat} (ht : MkT P t e z 1 bytes) (hd : Nat.ble (d + 1) N = true)
    (h : ∀ b, V P N B w0 ops Q rest ((d, .slice (some ⟨b, 0, none⟩) 0 0) :: L) H) : V P N B w0 ops Q (⟨some d, .buildSlice t 0 #[], ty, pos, af, none⟩ :: rest) L H :=
  ⟨fun a w hf hm => wpList_plain rfl fun K hK => by
    obtain ⟨inf, hinf, hiz, hsz, hby⟩ := ht.info
    have hbs : (Instr.buildSlice t 0 #[]).run P w = .ok (.slice (some ⟨w.heap.size, 0, none⟩) 0 0) { w with heap := w.heap.push (.cells #[] e) } := by
      simp [Instr.buildSlice, run_underlying ht.under, sizeOf, typeInfo, hinf, hsz, Instr.fill, newRow, newObj, Sem.run, range0]
    unfold Oper.wp
    simp only [execOp, List.map_toArray, List.map_nil, Array.map_empty, Sem.run_bind, hbs, Result.andThen_ok, Sem.run_pure]
    exact hK _ _ ((h _).run _ _ (hf.put hd _) (hm.push _ _))⟩

theorem V_appN {d : Nat} {ty t e : TypeId} {pos : String} {af : Array Edge} {rest : List Oper} {s x : Operand} {z sv : Value} {bytes b0 m : Nat} {c : Int → Value} (q : Nat)
    (ht : MkT P t e z 1 bytes) (hs : ev L s = some (.slice (some ⟨b0, 0, none⟩) 0 0)) (hx : ev L x = some sv) (hr : Rd B w0 H sv m c) (hm0 : 0 < m) (hbig : m * bytes ≤ 140737488355328) (hm1 : m < 4611686018427387904) (hd : Nat.ble (d + 1) N = true)
    (h : ∀ b cap, m ≤ cap → V P N B w0 ops Q rest ((d, .slice (some ⟨b, 0, none⟩) m cap) :: L) ((q, ⟨b, cap, (m : Int), c⟩) :: H)) :
    V P N B w0 ops Q (⟨some d, .call { callee := .builtin .append, args := #[s, x], argTypes := #[t, t] }, ty, pos, af, none⟩ :: rest) L H :=
  ⟨fun a w hf hm => wpList_plain rfl fun K hK => by
    obtain ⟨i, hi, hz, hsz, hby⟩ := ht.info
    obtain ⟨ao, cp, rfl, hcells⟩ := hr
    obtain ⟨ad, rfl, _⟩ := hcells 0 (by omega) (by omega)
    have hnews : ∀ j v, ((List.range m).map fun (j : Nat) => c (j : Int))[j]? = some v → w.cell? (ad.add j) = some v := by
      intro j v hj
      obtain ⟨hjl, rfl⟩ := range_map_get hj
      obtain ⟨x', he, hc⟩ := hcells (j : Int) (by omega) (by omega)
      obtain rfl := Option.some.inj he
      simpa using hc w hm
    have hrun := run_append_grow (P := P) w t ty e i z ht.under hi hz ⟨b0, 0, none⟩ 0 0 [] (by simp) (by simp) ad m cp ((List.range m).map fun (j : Nat) => c (j : Int)) (by simp [hsz]) hnews (by omega) (by omega) (growslice_fits (by omega) (by rw [hby]; simpa using hbig))
    simp only [Nat.zero_add] at hrun
    have hge := grownCap_ge w m 0 e
    generalize hcap : grownCap w m 0 e = cap at hrun hge
    have hsize : (([] : List Value).toArray ++ ((List.range m).map fun (j : Nat) => c (j : Int)).toArray ++ Builtin.zeroCells z.cells (cap - m)).size = cap := by
      simp only [Array.size_append, List.size_toArray, size_zeroCells, ht.cells, List.length_map, List.length_range, List.length_nil]
      omega
    have hA := (hm.drawn (w.drawn + 1)).alloc q (([] : List Value).toArray ++ ((List.range m).map fun (j : Nat) => c (j : Int)).toArray ++ Builtin.zeroCells z.cells (cap - m)) e (m : Int) c (by rw [hsize]; omega) (fun j j0 j1 => by
      have hlt : j.toNat < m := by omega
      rw [Array.append_assoc, Array.getElem?_append, if_neg (by simp), Array.getElem?_append, if_pos (by simp; omega)]
      simp [hlt]
      congr 1; omega)
    rw [hsize] at hA
    unfold Oper.wp
    simp only [execOp, resolve, invoke, builtin, List.map_toArray, List.map_cons, List.map_nil, hf.eval hs, hf.eval hx, Sem.run_bind, Sem.run_pure, Result.andThen_ok, hrun]
    exact hK _ _ ((h _ cap hge).run _ _ (hf.put hd _) hA)⟩
end
end Go.Proofs.Qxb6001236a
