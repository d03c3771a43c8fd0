/-
  OWN WORK. The structs of relayed.
-/
import Derived.Test.Qxb6001307aBuild2
import Derived.Test.Qxb6001307aKitM
namespace Go.Proofs.Qxb6001307a
open Go.RowKit
set_option linter.unusedSimpArgs false
set_option linter.unusedVariables false
theorem agg_of {t k : Nat} {zs : List Value} {fs : Array Field} (h1 : Try.prog.underlying t = some (.struct fs)) (h2 : (Try.prog.info? t).map (fun i => (i.zero, i.size)) = some (some (.agg zs.toArray), k)) : AggT Try.prog t k zs := by
  obtain ⟨i, hi, he⟩ := Option.map_eq_some_iff.1 h2
  simp only [Prod.mk.injEq] at he
  exact ⟨⟨fs, h1⟩, i, hi, he.2, he.1⟩
theorem ag74 : AggT Try.prog 74 2 [.int .i32 0, .slice none 0 0] := agg_of Try.underlying74 (by kernel_rfl)
theorem ag76 : AggT Try.prog 76 3 [.int .i32 0, .int .i32 0, .int .i32 0] := agg_of Try.underlying76 (by kernel_rfl)
theorem ag78 : AggT Try.prog 78 2 [.int .i32 0, .int .i32 0] := agg_of Try.underlying78 (by kernel_rfl)
theorem ag80 : AggT Try.prog 80 2 [.slice none 0 0, .int .i32 0] := agg_of Try.underlying80 (by kernel_rfl)
theorem ag87 : AggT Try.prog 87 2 [.int .i32 0, .int .i32 0] := agg_of Try.underlying87 (by kernel_rfl)
theorem ze74 : (Try.prog.info? 74).map (·.zero) = some (some (.agg #[.int .i32 0, .slice none 0 0])) := by kernel_rfl
theorem ze76 : (Try.prog.info? 76).map (·.zero) = some (some (.agg #[.int .i32 0, .int .i32 0, .int .i32 0])) := by kernel_rfl
theorem ze78 : (Try.prog.info? 78).map (·.zero) = some (some (.agg #[.int .i32 0, .int .i32 0])) := by kernel_rfl
theorem ze80 : (Try.prog.info? 80).map (·.zero) = some (some (.agg #[.slice none 0 0, .int .i32 0])) := by kernel_rfl
theorem ze87 : (Try.prog.info? 87).map (·.zero) = some (some (.agg #[.int .i32 0, .int .i32 0])) := by kernel_rfl
theorem build74 (w : World) (v1 : Value) (h1 : v1.oneCell' = true) : (Instr.build 74 [(1, v1)].toArray).run Try.prog w = .ok (.agg #[.int .i32 0, v1]) w := by
  simp [Instr.build, run_zero1 ze74, run_underlying Try.underlying74, run_sizeOf1 sz21, run_sizeOf1 sz22, agg_cells, Instr.fill, one_cells h1]
theorem build76 (w : World) (v0 v1 v2 : Value) (h0 : v0.oneCell' = true) (h1 : v1.oneCell' = true) (h2 : v2.oneCell' = true) : (Instr.build 76 [(0, v0), (1, v1), (2, v2)].toArray).run Try.prog w = .ok (.agg #[v0, v1, v2]) w := by
  simp [Instr.build, run_zero1 ze76, run_underlying Try.underlying76, run_sizeOf1 sz21, agg_cells, Instr.fill, one_cells h0, one_cells h1, one_cells h2]
theorem build78 (w : World) (v0 v1 : Value) (h0 : v0.oneCell' = true) (h1 : v1.oneCell' = true) : (Instr.build 78 [(0, v0), (1, v1)].toArray).run Try.prog w = .ok (.agg #[v0, v1]) w := by
  simp [Instr.build, run_zero1 ze78, run_underlying Try.underlying78, run_sizeOf1 sz21, agg_cells, Instr.fill, one_cells h0, one_cells h1]
theorem build80 (w : World) (v0 v1 : Value) (h0 : v0.oneCell' = true) (h1 : v1.oneCell' = true) : (Instr.build 80 [(0, v0), (1, v1)].toArray).run Try.prog w = .ok (.agg #[v0, v1]) w := by
  simp [Instr.build, run_zero1 ze80, run_underlying Try.underlying80, run_sizeOf1 sz21, run_sizeOf1 sz22, agg_cells, Instr.fill, one_cells h0, one_cells h1]
theorem build87 (w : World) (v0 v1 : Value) (h0 : v0.oneCell' = true) (h1 : v1.oneCell' = true) : (Instr.build 87 [(0, v0), (1, v1)].toArray).run Try.prog w = .ok (.agg #[v0, v1]) w := by
  simp [Instr.build, run_zero1 ze87, run_underlying Try.underlying87, run_sizeOf1 sz21, agg_cells, Instr.fill, one_cells h0, one_cells h1]
theorem build57f (w : World) (v0 : Value) (h0 : v0.oneCell' = true) : (Instr.build 57 [(0, v0)].toArray).run Try.prog w = .ok (.agg #[v0, .slice none 0 0, .slice none 0 0]) w := by
  simp [Instr.build, run_zero1 ze57, run_underlying Try.underlying57, run_sizeOf1 sz22, run_sizeOf1 sz54, agg_cells, Instr.fill, one_cells h0]
end Go.Proofs.Qxb6001307a
