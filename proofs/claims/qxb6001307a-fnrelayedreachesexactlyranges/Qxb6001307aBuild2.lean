/-
  OWN WORK. More structs built out of their parts; zeros.
-/
import Derived.Test.Qxb6001307aBuild
import Derived.Test.Qxb6001307aKitI
namespace Go.Proofs.Qxb6001307a
open Go.RowKit
set_option linter.unusedSimpArgs false
set_option linter.unusedVariables false
theorem ze83 : (Try.prog.info? 83).map (·.zero) = some (some (.agg #[.int .i32 0, .int .i32 0])) := by kernel_rfl
theorem ze53 : (Try.prog.info? 53).map (·.zero) = some (some (.pointer none)) := by kernel_rfl
theorem ze21 : (Try.prog.info? 21).map (·.zero) = some (some (.int .i32 0)) := by kernel_rfl
theorem build83 (w : World) (v0 v1 : Value) (h0 : v0.oneCell' = true) (h1 : v1.oneCell' = true) : (Instr.build 83 [(0, v0), (1, v1)].toArray).run Try.prog w = .ok (.agg #[v0, v1]) w := by
  simp [Instr.build, run_zero1 ze83, run_underlying Try.underlying83, run_sizeOf1 sz21, agg_cells, Instr.fill, one_cells h0, one_cells h1]
set_option maxRecDepth 10000 in
set_option maxHeartbeats 1000000 in
theorem build61s (w : World) (v0 v1 v3 v4 v5 v6 v7 v8 v9 v10 v11 v12 v13 : Value) (h0 : v0.oneCell' = true) (h1 : v1.oneCell' = true) (h3 : v3.oneCell' = true) (h4 : v4.oneCell' = true) (h5 : v5.oneCell' = true) (h6 : v6.oneCell' = true) (h7 : v7.oneCell' = true) (h8 : v8.oneCell' = true) (h9 : v9.oneCell' = true) (h10 : v10.oneCell' = true) (h11 : v11.oneCell' = true) (h12 : v12.oneCell' = true) (h13 : v13.oneCell' = true) :
    (Instr.build 61 [(0, v0), (1, v1), (3, v3), (4, v4), (5, v5), (6, v6), (7, v7), (8, v8), (9, v9), (10, v10), (11, v11), (12, v12), (13, v13)].toArray).run Try.prog w =
      .ok (.agg #[v0, v1, .int .i32 0, v3, v4, v5, v6, v7, v8, v9, v10, v11, v12, v13, .slice none 0 0, .slice none 0 0, .slice none 0 0]) w := by
  simp [Instr.build, run_zero1 ze61, run_underlying Try.underlying61, run_sizeOf1 sz22, run_sizeOf1 sz54, run_sizeOf1 sz53, run_sizeOf1 sz58, run_sizeOf1 sz21, run_sizeOf1 sz32, run_sizeOf1 sz26, run_sizeOf1 sz59, agg_cells, Instr.fill, one_cells h0, one_cells h1, one_cells h3, one_cells h4, one_cells h5, one_cells h6, one_cells h7, one_cells h8, one_cells h9, one_cells h10, one_cells h11, one_cells h12, one_cells h13]
end Go.Proofs.Qxb6001307a
