/-
  OWN WORK. Kit P: structs laid into a slice of structs; the struct rangeSet.
-/
import Derived.Test.Qxb6001307aKitO
import Derived.Test.Qxb6001307aBuild3
namespace Go.Proofs.Qxb6001307a
open Go.RowKit
set_option linter.unusedSimpArgs false
set_option linter.unusedVariables false
theorem lay2_0 {c : Int → Value} {l k : Int} {v0 v1 : Value} (h : 0 ≤ l) : lay c ((l.toNat * 2 : Nat) : Int) [v0, v1] (2 * k) = if k = l then v0 else c (2 * k) := by
  rw [lay_two]
  unfold upd
  by_cases e : k = l
  · subst e; rw [if_pos rfl, if_neg (by omega), if_pos (by omega)]
  · rw [if_neg e, if_neg (by omega), if_neg (by omega)]
theorem lay2_1 {c : Int → Value} {l k : Int} {v0 v1 : Value} (h : 0 ≤ l) : lay c ((l.toNat * 2 : Nat) : Int) [v0, v1] (2 * k + 1) = if k = l then v1 else c (2 * k + 1) := by
  rw [lay_two]
  unfold upd
  by_cases e : k = l
  · subst e; rw [if_pos rfl, if_pos (by omega)]
  · rw [if_neg e, if_neg (by omega), if_neg (by omega)]
theorem lay_three (c : Int → Value) (o : Int) (v u t : Value) : lay c o [v, u, t] = upd (upd (upd c o v) (o + 1) u) (o + 2) t := by
  funext i
  simp only [lay, upd, List.length_cons, List.length_nil]
  by_cases h : i = o
  · subst h
    rw [if_pos (by omega), if_neg (by omega), if_neg (by omega), if_pos rfl]
    simp
  · by_cases h' : i = o + 1
    · subst h'
      rw [if_pos (by omega), if_neg (by omega), if_pos rfl, show (o + 1 - o).toNat = 1 from by omega]
      rfl
    · by_cases h2 : i = o + 2
      · subst h2
        rw [if_pos (by omega), if_pos rfl, show (o + 2 - o).toNat = 2 from by omega]
        rfl
      · rw [if_neg (by omega), if_neg h2, if_neg h', if_neg h]
theorem lay3_at {c : Int → Value} {l k : Int} {v0 v1 v2 : Value} (h : 0 ≤ l) : lay c ((l.toNat * 3 : Nat) : Int) [v0, v1, v2] (3 * k) = (if k = l then v0 else c (3 * k)) ∧ lay c ((l.toNat * 3 : Nat) : Int) [v0, v1, v2] (3 * k + 1) = (if k = l then v1 else c (3 * k + 1)) ∧ lay c ((l.toNat * 3 : Nat) : Int) [v0, v1, v2] (3 * k + 2) = (if k = l then v2 else c (3 * k + 2)) := by
  rw [lay_three]
  unfold upd
  by_cases e : k = l
  · subst e
    refine ⟨?_, ?_, ?_⟩
    · rw [if_pos rfl, if_neg (by omega), if_neg (by omega), if_pos (by omega)]
    · rw [if_pos rfl, if_neg (by omega), if_pos (by omega)]
    · rw [if_pos rfl, if_pos (by omega)]
  · rw [if_neg e, if_neg e, if_neg e]
    refine ⟨?_, ?_, ?_⟩ <;> rw [if_neg (by omega), if_neg (by omega), if_neg (by omega)]
theorem ze72 : (Try.prog.info? 72).map (·.zero) = some (some (.agg #[.slice none 0 0, .slice none 0 0, .slice none 0 0, .slice none 0 0, .slice none 0 0, .slice none 0 0, .slice none 0 0, .slice none 0 0, .slice none 0 0, .slice none 0 0, .slice none 0 0, .slice none 0 0, .slice none 0 0, .slice none 0 0, .slice none 0 0])) := by kernel_rfl
theorem build72 (w : World) (v2 v9 : Value) (h2 : v2.oneCell' = true) (h9 : v9.oneCell' = true) : (Instr.build 72 [(2, v2), (9, v9)].toArray).run Try.prog w = .ok (.agg #[.slice none 0 0, .slice none 0 0, v2, .slice none 0 0, .slice none 0 0, .slice none 0 0, .slice none 0 0, .slice none 0 0, .slice none 0 0, v9, .slice none 0 0, .slice none 0 0, .slice none 0 0, .slice none 0 0, .slice none 0 0]) w := by
  simp [Instr.build, run_zero1 ze72, run_underlying Try.underlying72, run_sizeOf1 sz22, agg_cells, Instr.fill, one_cells h2, one_cells h9]
end Go.Proofs.Qxb6001307a
