/-
  OWN WORK. What the walks ask of the program's types and functions.
-/
import Derived.Test.Qxb6001236aKitO
namespace Go.Proofs.Qxb6001236a
open Go.RowKit
set_option linter.unusedSimpArgs false
set_option linter.unusedVariables false

theorem mix : Try.prog.follows .mixedOrders = true := by kernel_rfl

theorem in22 : (Try.prog.info? 5).map (fun i => (i.zero, i.size, i.bytes)) = some (some (.int .u8 0), 1, 1) := by kernel_rfl
theorem mk22 : MkT Try.prog 22 5 (.int .u8 0) 1 1 := ⟨Try.underlying22, info_parts in22, rfl, by decide⟩
theorem sl22 : SlT Try.prog 22 1 := by obtain ⟨i, h1, _, h2, _⟩ := info_parts in22; exact ⟨5, i, Try.underlying22, h1, h2⟩
theorem sz3 : (Try.prog.info? 3).map (·.size) = some 1 := by kernel_rfl
theorem lf3 : Leaf Try.prog 3 := ⟨⟨_, Try.underlying3, rfl⟩, Option.map_eq_some_iff.1 sz3⟩
theorem sz4 : (Try.prog.info? 4).map (·.size) = some 1 := by kernel_rfl
theorem lf4 : Leaf Try.prog 4 := ⟨⟨_, Try.underlying4, rfl⟩, Option.map_eq_some_iff.1 sz4⟩
theorem sz5 : (Try.prog.info? 5).map (·.size) = some 1 := by kernel_rfl
theorem lf5 : Leaf Try.prog 5 := ⟨⟨_, Try.underlying5, rfl⟩, Option.map_eq_some_iff.1 sz5⟩
theorem sz22 : (Try.prog.info? 22).map (·.size) = some 1 := by kernel_rfl
theorem lf22 : Leaf Try.prog 22 := ⟨⟨_, Try.underlying22, rfl⟩, Option.map_eq_some_iff.1 sz22⟩
theorem it3 : IntT Try.prog 3 .i64 := Try.underlying3
theorem it5 : IntT Try.prog 5 .u8 := Try.underlying5

theorem fieldAt_of {P : Program} {t : TypeId} {j off : Nat} (h : ((match P.underlying t with | some (.struct fs) => fs[j]? | _ => none).bind fun (f : Field) => (P.info? f.type).map fun (i : TypeInfo) => (f.offset, i.size)) = some (off, 1)) : FieldAt P t j off := by
  unfold FieldAt
  cases hu : P.underlying t with
  | none => rw [hu] at h; simp at h
  | some d =>
    rw [hu] at h
    cases d with
    | struct fs =>
      simp only at h
      cases hf : fs[j]? with
      | none => rw [hf] at h; simp at h
      | some f =>
        rw [hf] at h
        simp only [Option.bind_some] at h
        obtain ⟨i, hi, he⟩ := Option.map_eq_some_iff.1 h
        simp only [Prod.mk.injEq] at he
        exact ⟨fs, f, i, rfl, hf, he.1, hi, by omega⟩
    | _ => simp at h

theorem fa34_0 : FieldAt Try.prog 34 0 0 := fieldAt_of (by kernel_rfl)
theorem fa34_1 : FieldAt Try.prog 34 1 1 := fieldAt_of (by kernel_rfl)
theorem fa34_2 : FieldAt Try.prog 34 2 2 := fieldAt_of (by kernel_rfl)
theorem fa34_3 : FieldAt Try.prog 34 3 3 := fieldAt_of (by kernel_rfl)
theorem agg_of {t k : Nat} {zs : List Value} {fs : Array Field} (h1 : Try.prog.underlying t = some (.struct fs)) (h2 : (Try.prog.info? t).map (fun i => (i.zero, i.size)) = some (some (.agg zs.toArray), k)) : AggT Try.prog t k zs := by
  obtain ⟨i, hi, he⟩ := Option.map_eq_some_iff.1 h2
  simp only [Prod.mk.injEq] at he
  exact ⟨⟨fs, h1⟩, i, hi, he.2, he.1⟩
theorem ag34 : AggT Try.prog 34 4 [.slice none 0 0, .int .i64 0, .int .i64 0, .int .i64 0] := agg_of Try.underlying34 (by kernel_rfl)
theorem ze34 : (Try.prog.info? 34).map (·.zero) = some (some (.agg #[.slice none 0 0, .int .i64 0, .int .i64 0, .int .i64 0])) := by kernel_rfl
theorem cb6 : Callable Try.prog 6 := ⟨Try.f6, Try.func6, by kernel_rfl, by kernel_rfl⟩
theorem cb7 : Callable Try.prog 7 := ⟨Try.f7, Try.func7, by kernel_rfl, by kernel_rfl⟩
theorem cb8 : Callable Try.prog 8 := ⟨Try.f8, Try.func8, by kernel_rfl, by kernel_rfl⟩
theorem cb10 : Callable Try.prog 10 := ⟨Try.f10, Try.func10, by kernel_rfl, by kernel_rfl⟩
theorem cb11 : Callable Try.prog 11 := ⟨Try.f11, Try.func11, by kernel_rfl, by kernel_rfl⟩
theorem cb13 : Callable Try.prog 13 := ⟨Try.f13, Try.func13, by kernel_rfl, by kernel_rfl⟩
theorem cb17 : Callable Try.prog 17 := ⟨Try.f17, Try.func17, by kernel_rfl, by kernel_rfl⟩
theorem cb19 : Callable Try.prog 19 := ⟨Try.f19, Try.func19, by kernel_rfl, by kernel_rfl⟩
theorem cb20 : Callable Try.prog 20 := ⟨Try.f20, Try.func20, by kernel_rfl, by kernel_rfl⟩
theorem cb21 : Callable Try.prog 21 := ⟨Try.f21, Try.func21, by kernel_rfl, by kernel_rfl⟩
theorem cb22 : Callable Try.prog 22 := ⟨Try.f22, Try.func22, by kernel_rfl, by kernel_rfl⟩
theorem cb24 : Callable Try.prog 24 := ⟨Try.f24, Try.func24, by kernel_rfl, by kernel_rfl⟩
theorem cb25 : Callable Try.prog 25 := ⟨Try.f25, Try.func25, by kernel_rfl, by kernel_rfl⟩
theorem cb26 : Callable Try.prog 26 := ⟨Try.f26, Try.func26, by kernel_rfl, by kernel_rfl⟩
theorem cb27 : Callable Try.prog 27 := ⟨Try.f27, Try.func27, by kernel_rfl, by kernel_rfl⟩
theorem cb28 : Callable Try.prog 28 := ⟨Try.f28, Try.func28, by kernel_rfl, by kernel_rfl⟩
theorem cb29 : Callable Try.prog 29 := ⟨Try.f29, Try.func29, by kernel_rfl, by kernel_rfl⟩
theorem cb30 : Callable Try.prog 30 := ⟨Try.f30, Try.func30, by kernel_rfl, by kernel_rfl⟩
end Go.Proofs.Qxb6001236a
