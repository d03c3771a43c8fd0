/-
  OWN WORK. Code units: plain.
-/
import Derived.Test.Qxb6001236aKitR
namespace Go.Proofs.Qxb6001236a
open Go.RowKit
set_option linter.unusedSimpArgs false
set_option linter.unusedVariables false
/-- The first unit's byte, the unit's bytes, the low byte's place. -/
def uo (n : Int) (d : Int → Int) : Int × Int × Int :=
  if 2 ≤ n ∧ d 0 = 255 ∧ d 1 = 254 then (2, 2, 0) else if 2 ≤ n ∧ d 0 = 254 ∧ d 1 = 255 then (2, 2, 1) else if 3 ≤ n ∧ d 0 = 239 ∧ d 1 = 187 ∧ d 2 = 191 then (3, 1, 0) else (0, 1, 0)
theorem uo_ok (n : Int) (d : Int → Int) (h : 0 ≤ n) : 0 ≤ (uo n d).1 ∧ (uo n d).1 ≤ n ∧ (uo n d).1 ≤ 3 ∧ ((uo n d).2.1 = 1 ∧ (uo n d).2.2 = 0 ∨ (uo n d).2.1 = 2 ∧ (uo n d).1 = 2 ∧ ((uo n d).2.2 = 0 ∨ (uo n d).2.2 = 1)) := by
  unfold uo
  split
  · rename_i h1; exact ⟨by simp, by simp; omega, by simp, .inr ⟨rfl, rfl, .inl rfl⟩⟩
  · split
    · rename_i h1; exact ⟨by simp, by simp; omega, by simp, .inr ⟨rfl, rfl, .inr rfl⟩⟩
    · split
      · rename_i h1; exact ⟨by simp, by simp; omega, by simp, .inl ⟨rfl, rfl⟩⟩
      · exact ⟨by simp, h, by simp, .inl ⟨rfl, rfl⟩⟩
def asc (n : Int) (d : Int → Int) (s z l i : Int) : Int :=
  if (n - s) / z ≤ i then 128 else if 128 ≤ d (s + i * z + l) ∨ (z = 2 ∧ d (s + i * z + l + 1 - 2 * l) ≠ 0) then 128 else d (s + i * z + l)
def brk (n : Int) (d : Int → Int) (s z l i : Int) : Int :=
  if asc n d s z l i = 13 then (if asc n d s z l (i + 1) = 10 then 2 else 1) else if asc n d s z l i = 10 then 1 else 0
theorem asc_lt {n : Int} {d : Int → Int} {s z l i : Int} (h : asc n d s z l i ≠ 128) : i < (n - s) / z := by
  unfold asc at h
  by_cases c : (n - s) / z ≤ i
  · rw [if_pos c] at h; exact absurd rfl h
  · omega
/-- The place of a unit's low byte, and of the other. -/
theorem off_b {n s z l i : Int} (hs : 0 ≤ s) (hsn : s ≤ n) (hz : z = 1 ∧ l = 0 ∨ z = 2 ∧ (l = 0 ∨ l = 1)) (hi : 0 ≤ i) (h : i < (n - s) / z) : 0 ≤ i * z ∧ i * z ≤ n ∧ 0 ≤ s + i * z + l ∧ s + i * z + l < n ∧ (z = 2 → 0 ≤ s + i * z + l + 1 - 2 * l ∧ s + i * z + l + 1 - 2 * l < n) := by
  rcases hz with ⟨rfl, rfl⟩ | ⟨rfl, hl⟩
  · omega
  · omega
theorem div_b {n s z : Int} (hs : 0 ≤ s) (hsn : s ≤ n) (hz : z = 1 ∨ z = 2) : 0 ≤ (n - s) / z ∧ (n - s) / z ≤ n := by
  rcases hz with rfl | rfl <;> omega
theorem RdW.take {w : World} {a : Option Addr} {n cap : Nat} {c : Int → Value} (h : RdW w (.slice a n cap) n c) {k : Nat} (hk : k ≤ n) (cap' : Nat) : RdW w (.slice a k cap') k c := by
  obtain ⟨a', c', he, hc⟩ := h
  simp only [Value.slice.injEq] at he
  obtain ⟨rfl, _, rfl⟩ := he
  exact ⟨a, cap', rfl, fun i i0 i1 => hc i i0 (by omega)⟩
theorem RdW.ix {w : World} {a : Option Addr} {n cap : Nat} {c : Int → Value} (h : RdW w (.slice a n cap) n c) {m : Int} (h0 : 0 ≤ m) (h1 : m < (n : Int)) : ∃ ad, a = some ad ∧ ∀ (H : List (Nat × Bk)) (w' : World), Mem (Old w) w H w' → w'.cell? (ad.add (m.toNat * 1)) = some (c m) := by
  have hr : ∀ H, Rd (Old w) w H (.slice a n cap) n c := fun H => h.rd
  obtain ⟨a', c', he, hc⟩ := h
  simp only [Value.slice.injEq] at he
  obtain ⟨rfl, _, rfl⟩ := he
  obtain ⟨x, hx, _⟩ := hc m h0 h1
  refine ⟨x, hx, fun H w' hm => ?_⟩
  obtain ⟨a2, c2, he2, hc2⟩ := hr H
  simp only [Value.slice.injEq] at he2
  obtain ⟨rfl, _, _⟩ := he2
  obtain ⟨x2, hx2, hcell⟩ := hc2 m h0 h1
  rw [hx] at hx2
  obtain rfl := Option.some.inj hx2
  rw [Nat.mul_one]
  exact hcell w' hm
theorem fl_cells (vs : List Value) : ∀ j v, vs[j]? = some v → fl vs ((0 + j : Nat) : Int) = v := by
  intro j v hj
  unfold fl
  rw [show (((0 + j : Nat) : Int)).toNat = j from by omega, List.getD_eq_getElem?_getD, hj]
  rfl
theorem S_no2 {P : Program} {N : Nat} {B : Nat → Prop} {w0 : World} {ops : Array Oper} {K : Act → World → Prop} {L : List (Nat × Value)} {H : List (Nat × Bk)} {d : Nat} {op : Op} {ty : TypeId} {pos : String} {af : Array Edge} {j t : Nat} {b : Bool} {rest : List Oper} (hj : (ops[j]?).bind (·.dst) = some t) (hb : lk L t = some undef) (hd : Nat.ble (d + 1) N = true) (h : S P N B w0 ops K rest ((d, undef) :: L) H) : S P N B w0 ops K (⟨some d, op, ty, pos, af, some (j, b)⟩ :: rest) L H :=
  ⟨fun a w hf hm => by
    have hy : yielded ops a.tmps j = Option.none := by
      unfold yielded
      rw [hj, Option.bind_some, hf.get t _ hb]
      rfl
    unfold wpStill
    rw [if_neg (by simp only [Region.wanted, hy]; cases b <;> simp)]
    exact h.run _ _ (hf.put hd _) hm⟩
theorem run_sizeOf1 {P : Program} {t k : Nat} (h : (P.info? t).map (·.size) = some k) (w : World) : (sizeOf t).run P w = .ok k w := by
  obtain ⟨i, hi, hk⟩ := Option.map_eq_some_iff.1 h
  simp [sizeOf, typeInfo, hi, hk]
theorem run_zero1 {P : Program} {t : Nat} {z : Value} (h : (P.info? t).map (·.zero) = some (some z)) (w : World) : (zeroValue t).run P w = .ok z w := by
  obtain ⟨i, hi, hk⟩ := Option.map_eq_some_iff.1 h
  simp [zeroValue, typeInfo, hi, hk]
theorem one_cells {v : Value} (h : v.oneCell' = true) : v.cells = #[v] := by cases v <;> simp [Value.oneCell'] at h <;> rfl

theorem agg_cells (cs : Array Value) : (Value.agg cs).cells = cs := rfl
theorem build34a (w : World) (v0 v1 v2 v3 : Value) (h0 : v0.oneCell' = true) (h1 : v1.oneCell' = true) (h2 : v2.oneCell' = true) (h3 : v3.oneCell' = true) : (Instr.build 34 [(0, v0), (1, v1), (2, v2), (3, v3)].toArray).run Try.prog w = .ok (.agg #[v0, v1, v2, v3]) w := by
  simp [Instr.build, run_zero1 ze34, run_underlying Try.underlying34, run_sizeOf1 sz22, run_sizeOf1 sz3, agg_cells, Instr.fill, one_cellsR h0, one_cellsR h1, one_cellsR h2, one_cellsR h3]
theorem build34b (w : World) (v0 v1 v2 : Value) (h0 : v0.oneCell' = true) (h1 : v1.oneCell' = true) (h2 : v2.oneCell' = true) : (Instr.build 34 [(0, v0), (1, v1), (2, v2)].toArray).run Try.prog w = .ok (.agg #[v0, v1, v2, .int .i64 0]) w := by
  simp [Instr.build, run_zero1 ze34, run_underlying Try.underlying34, run_sizeOf1 sz22, run_sizeOf1 sz3, agg_cells, Instr.fill, one_cellsR h0, one_cellsR h1, one_cellsR h2]
theorem build34c (w : World) (v0 v2 : Value) (h0 : v0.oneCell' = true) (h2 : v2.oneCell' = true) : (Instr.build 34 [(0, v0), (2, v2)].toArray).run Try.prog w = .ok (.agg #[v0, .int .i64 0, v2, .int .i64 0]) w := by
  simp [Instr.build, run_zero1 ze34, run_underlying Try.underlying34, run_sizeOf1 sz22, run_sizeOf1 sz3, agg_cells, Instr.fill, one_cellsR h0, one_cellsR h2]
end Go.Proofs.Qxb6001236a
