/-
  OWN WORK. Structs built out of their parts.
-/
import Derived.Test.Qxb6001307aTypes
import Derived.Test.Qxb6001307aKitF
namespace Go.Proofs.Qxb6001307a
open Go.RowKit
set_option linter.unusedSimpArgs false
set_option linter.unusedVariables false

theorem run_sizeOf1 {P : Program} {t k : Nat} (h : (P.info? t).map (·.size) = some k) (w : World) : (sizeOf t).run P w = .ok k w := by
  obtain ⟨i, hi, hk⟩ := Option.map_eq_some_iff.1 h
  simp [sizeOf, typeInfo, hi, hk]
theorem run_zero1 {P : Program} {t : Nat} {z : Value} (h : (P.info? t).map (·.zero) = some (some z)) (w : World) : (zeroValue t).run P w = .ok z w := by
  obtain ⟨i, hi, hk⟩ := Option.map_eq_some_iff.1 h
  simp [zeroValue, typeInfo, hi, hk]
theorem one_cells {v : Value} (h : v.oneCell' = true) : v.cells = #[v] := by cases v <;> simp [Value.oneCell'] at h <;> rfl

theorem agg_cells (cs : Array Value) : (Value.agg cs).cells = cs := rfl

theorem ze57 : (Try.prog.info? 57).map (·.zero) = some (some (.agg #[.slice none 0 0, .slice none 0 0, .slice none 0 0])) := by kernel_rfl
theorem ze61 : (Try.prog.info? 61).map (·.zero) = some (some (.agg #[.pointer none, .int .u8 0, .int .i32 0, .slice none 0 0, .slice none 0 0, .slice none 0 0, .slice none 0 0, .slice none 0 0, .slice none 0 0, .slice none 0 0, .slice none 0 0, .slice none 0 0, .slice none 0 0, .slice none 0 0, .slice none 0 0, .slice none 0 0, .slice none 0 0])) := by kernel_rfl

theorem build57 (w : World) (v0 v1 v2 : Value) (h0 : v0.oneCell' = true) (h1 : v1.oneCell' = true) (h2 : v2.oneCell' = true) : (Instr.build 57 [(0, v0), (1, v1), (2, v2)].toArray).run Try.prog w = .ok (.agg #[v0, v1, v2]) w := by
  simp [Instr.build, run_zero1 ze57, run_underlying Try.underlying57, run_sizeOf1 sz22, run_sizeOf1 sz54, agg_cells, Instr.fill, one_cells h0, one_cells h1, one_cells h2]

set_option maxRecDepth 10000 in
set_option maxHeartbeats 1000000 in
theorem build61 (w : World) (v0 v1 v2 v3 v5 v6 v7 v8 v9 v10 v13 v14 : Value) (h0 : v0.oneCell' = true) (h1 : v1.oneCell' = true) (h2 : v2.oneCell' = true) (h3 : v3.oneCell' = true) (h5 : v5.oneCell' = true) (h6 : v6.oneCell' = true) (h7 : v7.oneCell' = true) (h8 : v8.oneCell' = true) (h9 : v9.oneCell' = true) (h10 : v10.oneCell' = true) (h13 : v13.oneCell' = true) (h14 : v14.oneCell' = true) :
    (Instr.build 61 [(0, v0), (1, v1), (2, v2), (3, v3), (5, v5), (6, v6), (7, v7), (8, v8), (9, v9), (10, v10), (13, v13), (14, v14)].toArray).run Try.prog w =
      .ok (.agg #[v0, v1, v2, v3, .slice none 0 0, v5, v6, v7, v8, v9, v10, .slice none 0 0, .slice none 0 0, v13, v14, .slice none 0 0, .slice none 0 0]) w := by
  simp [Instr.build, run_zero1 ze61, run_underlying Try.underlying61, run_sizeOf1 sz22, run_sizeOf1 sz54, run_sizeOf1 sz53, run_sizeOf1 sz58, run_sizeOf1 sz21, run_sizeOf1 sz32, run_sizeOf1 sz26, run_sizeOf1 sz59, agg_cells, Instr.fill, one_cells h0, one_cells h1, one_cells h2, one_cells h3, one_cells h5, one_cells h6, one_cells h7, one_cells h8, one_cells h9, one_cells h10, one_cells h13, one_cells h14]
end Go.Proofs.Qxb6001307a
