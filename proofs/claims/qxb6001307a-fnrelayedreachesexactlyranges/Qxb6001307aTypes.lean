/-
  OWN WORK. What the walks ask of the program's types and functions.
-/
import Derived.Test.Qxb6001307aKitC
namespace Go.Proofs.Qxb6001307a
open Go.RowKit
set_option linter.unusedSimpArgs false
set_option linter.unusedVariables false

theorem mix : Try.prog.follows .mixedOrders = true := by kernel_rfl

theorem in22 : (Try.prog.info? 21).map (fun i => (i.zero, i.size, i.bytes)) = some (some (.int .i32 0), 1, 4) := by kernel_rfl
theorem mk22 : MkT Try.prog 22 21 (.int .i32 0) 1 4 := ⟨Try.underlying22, info_parts in22, rfl, by decide⟩
theorem sl22 : SlT Try.prog 22 1 := by obtain ⟨i, h1, _, h2, _⟩ := info_parts in22; exact ⟨21, i, Try.underlying22, h1, h2⟩
theorem in23 : (Try.prog.info? 5).map (fun i => (i.zero, i.size, i.bytes)) = some (some (.int .u8 0), 1, 1) := by kernel_rfl
theorem mk23 : MkT Try.prog 23 5 (.int .u8 0) 1 1 := ⟨Try.underlying23, info_parts in23, rfl, by decide⟩
theorem sl23 : SlT Try.prog 23 1 := by obtain ⟨i, h1, _, h2, _⟩ := info_parts in23; exact ⟨5, i, Try.underlying23, h1, h2⟩
theorem in26 : (Try.prog.info? 4).map (fun i => (i.zero, i.size, i.bytes)) = some (some (.bool false), 1, 1) := by kernel_rfl
theorem mk26 : MkT Try.prog 26 4 (.bool false) 1 1 := ⟨Try.underlying26, info_parts in26, rfl, by decide⟩
theorem sl26 : SlT Try.prog 26 1 := by obtain ⟨i, h1, _, h2, _⟩ := info_parts in26; exact ⟨4, i, Try.underlying26, h1, h2⟩
theorem in32 : (Try.prog.info? 3).map (fun i => (i.zero, i.size, i.bytes)) = some (some (.int .i64 0), 1, 8) := by kernel_rfl
theorem mk32 : MkT Try.prog 32 3 (.int .i64 0) 1 8 := ⟨Try.underlying32, info_parts in32, rfl, by decide⟩
theorem sl32 : SlT Try.prog 32 1 := by obtain ⟨i, h1, _, h2, _⟩ := info_parts in32; exact ⟨3, i, Try.underlying32, h1, h2⟩
theorem in42 : (Try.prog.info? 22).map (fun i => (i.zero, i.size, i.bytes)) = some (some (.slice none 0 0), 1, 24) := by kernel_rfl
theorem mk42 : MkT Try.prog 42 22 (.slice none 0 0) 1 24 := ⟨Try.underlying42, info_parts in42, rfl, by decide⟩
theorem sl42 : SlT Try.prog 42 1 := by obtain ⟨i, h1, _, h2, _⟩ := info_parts in42; exact ⟨22, i, Try.underlying42, h1, h2⟩
theorem in54 : (Try.prog.info? 58).map (fun i => (i.zero, i.size, i.bytes)) = some (some (.int .u8 0), 1, 1) := by kernel_rfl
theorem mk54 : MkT Try.prog 54 58 (.int .u8 0) 1 1 := ⟨Try.underlying54, info_parts in54, rfl, by decide⟩
theorem sl54 : SlT Try.prog 54 1 := by obtain ⟨i, h1, _, h2, _⟩ := info_parts in54; exact ⟨58, i, Try.underlying54, h1, h2⟩
theorem in59 : (Try.prog.info? 83).map (fun i => (i.zero, i.size, i.bytes)) = some (some (.agg #[.int .i32 0, .int .i32 0]), 2, 8) := by kernel_rfl
theorem mk59 : MkT Try.prog 59 83 (.agg #[.int .i32 0, .int .i32 0]) 2 8 := ⟨Try.underlying59, info_parts in59, rfl, by decide⟩
theorem sl59 : SlT Try.prog 59 2 := by obtain ⟨i, h1, _, h2, _⟩ := info_parts in59; exact ⟨83, i, Try.underlying59, h1, h2⟩
theorem in65 : (Try.prog.info? 74).map (fun i => (i.zero, i.size, i.bytes)) = some (some (.agg #[.int .i32 0, .slice none 0 0]), 2, 32) := by kernel_rfl
theorem mk65 : MkT Try.prog 65 74 (.agg #[.int .i32 0, .slice none 0 0]) 2 32 := ⟨Try.underlying65, info_parts in65, rfl, by decide⟩
theorem sl65 : SlT Try.prog 65 2 := by obtain ⟨i, h1, _, h2, _⟩ := info_parts in65; exact ⟨74, i, Try.underlying65, h1, h2⟩
theorem in66 : (Try.prog.info? 76).map (fun i => (i.zero, i.size, i.bytes)) = some (some (.agg #[.int .i32 0, .int .i32 0, .int .i32 0]), 3, 12) := by kernel_rfl
theorem mk66 : MkT Try.prog 66 76 (.agg #[.int .i32 0, .int .i32 0, .int .i32 0]) 3 12 := ⟨Try.underlying66, info_parts in66, rfl, by decide⟩
theorem sl66 : SlT Try.prog 66 3 := by obtain ⟨i, h1, _, h2, _⟩ := info_parts in66; exact ⟨76, i, Try.underlying66, h1, h2⟩
theorem in68 : (Try.prog.info? 80).map (fun i => (i.zero, i.size, i.bytes)) = some (some (.agg #[.slice none 0 0, .int .i32 0]), 2, 32) := by kernel_rfl
theorem mk68 : MkT Try.prog 68 80 (.agg #[.slice none 0 0, .int .i32 0]) 2 32 := ⟨Try.underlying68, info_parts in68, rfl, by decide⟩
theorem sl68 : SlT Try.prog 68 2 := by obtain ⟨i, h1, _, h2, _⟩ := info_parts in68; exact ⟨80, i, Try.underlying68, h1, h2⟩
theorem in69 : (Try.prog.info? 78).map (fun i => (i.zero, i.size, i.bytes)) = some (some (.agg #[.int .i32 0, .int .i32 0]), 2, 8) := by kernel_rfl
theorem mk69 : MkT Try.prog 69 78 (.agg #[.int .i32 0, .int .i32 0]) 2 8 := ⟨Try.underlying69, info_parts in69, rfl, by decide⟩
theorem sl69 : SlT Try.prog 69 2 := by obtain ⟨i, h1, _, h2, _⟩ := info_parts in69; exact ⟨78, i, Try.underlying69, h1, h2⟩
theorem in85 : (Try.prog.info? 87).map (fun i => (i.zero, i.size, i.bytes)) = some (some (.agg #[.int .i32 0, .int .i32 0]), 2, 8) := by kernel_rfl
theorem mk85 : MkT Try.prog 85 87 (.agg #[.int .i32 0, .int .i32 0]) 2 8 := ⟨Try.underlying85, info_parts in85, rfl, by decide⟩
theorem sl85 : SlT Try.prog 85 2 := by obtain ⟨i, h1, _, h2, _⟩ := info_parts in85; exact ⟨87, i, Try.underlying85, h1, h2⟩
theorem sz2 : (Try.prog.info? 2).map (·.size) = some 1 := by kernel_rfl
theorem lf2 : Leaf Try.prog 2 := ⟨⟨_, Try.underlying2, rfl⟩, Option.map_eq_some_iff.1 sz2⟩
theorem sz3 : (Try.prog.info? 3).map (·.size) = some 1 := by kernel_rfl
theorem lf3 : Leaf Try.prog 3 := ⟨⟨_, Try.underlying3, rfl⟩, Option.map_eq_some_iff.1 sz3⟩
theorem sz4 : (Try.prog.info? 4).map (·.size) = some 1 := by kernel_rfl
theorem lf4 : Leaf Try.prog 4 := ⟨⟨_, Try.underlying4, rfl⟩, Option.map_eq_some_iff.1 sz4⟩
theorem sz5 : (Try.prog.info? 5).map (·.size) = some 1 := by kernel_rfl
theorem lf5 : Leaf Try.prog 5 := ⟨⟨_, Try.underlying5, rfl⟩, Option.map_eq_some_iff.1 sz5⟩
theorem sz21 : (Try.prog.info? 21).map (·.size) = some 1 := by kernel_rfl
theorem lf21 : Leaf Try.prog 21 := ⟨⟨_, Try.underlying21, rfl⟩, Option.map_eq_some_iff.1 sz21⟩
theorem sz58 : (Try.prog.info? 58).map (·.size) = some 1 := by kernel_rfl
theorem lf58 : Leaf Try.prog 58 := ⟨⟨_, Try.underlying58, rfl⟩, Option.map_eq_some_iff.1 sz58⟩
theorem sz22 : (Try.prog.info? 22).map (·.size) = some 1 := by kernel_rfl
theorem lf22 : Leaf Try.prog 22 := ⟨⟨_, Try.underlying22, rfl⟩, Option.map_eq_some_iff.1 sz22⟩
theorem sz23 : (Try.prog.info? 23).map (·.size) = some 1 := by kernel_rfl
theorem lf23 : Leaf Try.prog 23 := ⟨⟨_, Try.underlying23, rfl⟩, Option.map_eq_some_iff.1 sz23⟩
theorem sz26 : (Try.prog.info? 26).map (·.size) = some 1 := by kernel_rfl
theorem lf26 : Leaf Try.prog 26 := ⟨⟨_, Try.underlying26, rfl⟩, Option.map_eq_some_iff.1 sz26⟩
theorem sz32 : (Try.prog.info? 32).map (·.size) = some 1 := by kernel_rfl
theorem lf32 : Leaf Try.prog 32 := ⟨⟨_, Try.underlying32, rfl⟩, Option.map_eq_some_iff.1 sz32⟩
theorem sz42 : (Try.prog.info? 42).map (·.size) = some 1 := by kernel_rfl
theorem lf42 : Leaf Try.prog 42 := ⟨⟨_, Try.underlying42, rfl⟩, Option.map_eq_some_iff.1 sz42⟩
theorem sz54 : (Try.prog.info? 54).map (·.size) = some 1 := by kernel_rfl
theorem lf54 : Leaf Try.prog 54 := ⟨⟨_, Try.underlying54, rfl⟩, Option.map_eq_some_iff.1 sz54⟩
theorem sz59 : (Try.prog.info? 59).map (·.size) = some 1 := by kernel_rfl
theorem lf59 : Leaf Try.prog 59 := ⟨⟨_, Try.underlying59, rfl⟩, Option.map_eq_some_iff.1 sz59⟩
theorem sz65 : (Try.prog.info? 65).map (·.size) = some 1 := by kernel_rfl
theorem lf65 : Leaf Try.prog 65 := ⟨⟨_, Try.underlying65, rfl⟩, Option.map_eq_some_iff.1 sz65⟩
theorem sz66 : (Try.prog.info? 66).map (·.size) = some 1 := by kernel_rfl
theorem lf66 : Leaf Try.prog 66 := ⟨⟨_, Try.underlying66, rfl⟩, Option.map_eq_some_iff.1 sz66⟩
theorem sz68 : (Try.prog.info? 68).map (·.size) = some 1 := by kernel_rfl
theorem lf68 : Leaf Try.prog 68 := ⟨⟨_, Try.underlying68, rfl⟩, Option.map_eq_some_iff.1 sz68⟩
theorem sz69 : (Try.prog.info? 69).map (·.size) = some 1 := by kernel_rfl
theorem lf69 : Leaf Try.prog 69 := ⟨⟨_, Try.underlying69, rfl⟩, Option.map_eq_some_iff.1 sz69⟩
theorem sz85 : (Try.prog.info? 85).map (·.size) = some 1 := by kernel_rfl
theorem lf85 : Leaf Try.prog 85 := ⟨⟨_, Try.underlying85, rfl⟩, Option.map_eq_some_iff.1 sz85⟩
theorem sz53 : (Try.prog.info? 53).map (·.size) = some 1 := by kernel_rfl
theorem lf53 : Leaf Try.prog 53 := ⟨⟨_, Try.underlying53, rfl⟩, Option.map_eq_some_iff.1 sz53⟩
theorem sz29 : (Try.prog.info? 29).map (·.size) = some 1 := by kernel_rfl
theorem lf29 : Leaf Try.prog 29 := ⟨⟨_, Try.underlying29, rfl⟩, Option.map_eq_some_iff.1 sz29⟩
theorem sz64 : (Try.prog.info? 64).map (·.size) = some 1 := by kernel_rfl
theorem lf64 : Leaf Try.prog 64 := ⟨⟨_, Try.underlying64, rfl⟩, Option.map_eq_some_iff.1 sz64⟩
theorem sz84 : (Try.prog.info? 84).map (·.size) = some 1 := by kernel_rfl
theorem lf84 : Leaf Try.prog 84 := ⟨⟨_, Try.underlying84, rfl⟩, Option.map_eq_some_iff.1 sz84⟩
theorem it2 : IntT Try.prog 2 .i64 := Try.underlying2
theorem it3 : IntT Try.prog 3 .i64 := Try.underlying3
theorem it5 : IntT Try.prog 5 .u8 := Try.underlying5
theorem it21 : IntT Try.prog 21 .i32 := Try.underlying21
theorem it58 : IntT Try.prog 58 .u8 := Try.underlying58

theorem fieldAt_of {P : Program} {t : TypeId} {j off : Nat} (h : ((match P.underlying t with | some (.struct fs) => fs[j]? | _ => none).bind fun (f : Field) => (P.info? f.type).map fun (i : TypeInfo) => (f.offset, i.size)) = some (off, 1)) : FieldAt P t j off := by
  unfold FieldAt
  cases hu : P.underlying t with
  | none => rw [hu] at h; simp at h
  | some d =>
    rw [hu] at h
    cases d with
    | struct fs =>
      simp only at h
      cases hf : fs[j]? with
      | none => rw [hf] at h; simp at h
      | some f =>
        rw [hf] at h
        simp only [Option.bind_some] at h
        obtain ⟨i, hi, he⟩ := Option.map_eq_some_iff.1 h
        simp only [Prod.mk.injEq] at he
        exact ⟨fs, f, i, rfl, hf, he.1, hi, by omega⟩
    | _ => simp at h

theorem fa61_0 : FieldAt Try.prog 61 0 0 := fieldAt_of (by kernel_rfl)
theorem fa61_1 : FieldAt Try.prog 61 1 1 := fieldAt_of (by kernel_rfl)
theorem fa61_2 : FieldAt Try.prog 61 2 2 := fieldAt_of (by kernel_rfl)
theorem fa61_3 : FieldAt Try.prog 61 3 3 := fieldAt_of (by kernel_rfl)
theorem fa61_4 : FieldAt Try.prog 61 4 4 := fieldAt_of (by kernel_rfl)
theorem fa61_5 : FieldAt Try.prog 61 5 5 := fieldAt_of (by kernel_rfl)
theorem fa61_6 : FieldAt Try.prog 61 6 6 := fieldAt_of (by kernel_rfl)
theorem fa61_7 : FieldAt Try.prog 61 7 7 := fieldAt_of (by kernel_rfl)
theorem fa61_8 : FieldAt Try.prog 61 8 8 := fieldAt_of (by kernel_rfl)
theorem fa61_9 : FieldAt Try.prog 61 9 9 := fieldAt_of (by kernel_rfl)
theorem fa61_10 : FieldAt Try.prog 61 10 10 := fieldAt_of (by kernel_rfl)
theorem fa61_11 : FieldAt Try.prog 61 11 11 := fieldAt_of (by kernel_rfl)
theorem fa61_12 : FieldAt Try.prog 61 12 12 := fieldAt_of (by kernel_rfl)
theorem fa61_13 : FieldAt Try.prog 61 13 13 := fieldAt_of (by kernel_rfl)
theorem fa61_14 : FieldAt Try.prog 61 14 14 := fieldAt_of (by kernel_rfl)
theorem fa61_15 : FieldAt Try.prog 61 15 15 := fieldAt_of (by kernel_rfl)
theorem fa61_16 : FieldAt Try.prog 61 16 16 := fieldAt_of (by kernel_rfl)
theorem fa57_0 : FieldAt Try.prog 57 0 0 := fieldAt_of (by kernel_rfl)
theorem fa57_1 : FieldAt Try.prog 57 1 1 := fieldAt_of (by kernel_rfl)
theorem fa57_2 : FieldAt Try.prog 57 2 2 := fieldAt_of (by kernel_rfl)
theorem fa72_0 : FieldAt Try.prog 72 0 0 := fieldAt_of (by kernel_rfl)
theorem fa72_1 : FieldAt Try.prog 72 1 1 := fieldAt_of (by kernel_rfl)
theorem fa72_2 : FieldAt Try.prog 72 2 2 := fieldAt_of (by kernel_rfl)
theorem fa72_7 : FieldAt Try.prog 72 7 7 := fieldAt_of (by kernel_rfl)
theorem fa72_8 : FieldAt Try.prog 72 8 8 := fieldAt_of (by kernel_rfl)
theorem fa72_9 : FieldAt Try.prog 72 9 9 := fieldAt_of (by kernel_rfl)
theorem fa74_0 : FieldAt Try.prog 74 0 0 := fieldAt_of (by kernel_rfl)
theorem fa74_1 : FieldAt Try.prog 74 1 1 := fieldAt_of (by kernel_rfl)
theorem fa76_0 : FieldAt Try.prog 76 0 0 := fieldAt_of (by kernel_rfl)
theorem fa76_1 : FieldAt Try.prog 76 1 1 := fieldAt_of (by kernel_rfl)
theorem fa76_2 : FieldAt Try.prog 76 2 2 := fieldAt_of (by kernel_rfl)
theorem fa78_0 : FieldAt Try.prog 78 0 0 := fieldAt_of (by kernel_rfl)
theorem fa78_1 : FieldAt Try.prog 78 1 1 := fieldAt_of (by kernel_rfl)
theorem fa80_0 : FieldAt Try.prog 80 0 0 := fieldAt_of (by kernel_rfl)
theorem fa80_1 : FieldAt Try.prog 80 1 1 := fieldAt_of (by kernel_rfl)
theorem fa83_0 : FieldAt Try.prog 83 0 0 := fieldAt_of (by kernel_rfl)
theorem fa83_1 : FieldAt Try.prog 83 1 1 := fieldAt_of (by kernel_rfl)
theorem fa87_0 : FieldAt Try.prog 87 0 0 := fieldAt_of (by kernel_rfl)
theorem fa87_1 : FieldAt Try.prog 87 1 1 := fieldAt_of (by kernel_rfl)
theorem cb3 : Callable Try.prog 3 := ⟨Try.f3, Try.func3, by kernel_rfl, by kernel_rfl⟩
theorem cb4 : Callable Try.prog 4 := ⟨Try.f4, Try.func4, by kernel_rfl, by kernel_rfl⟩
theorem cb5 : Callable Try.prog 5 := ⟨Try.f5, Try.func5, by kernel_rfl, by kernel_rfl⟩
theorem cb6 : Callable Try.prog 6 := ⟨Try.f6, Try.func6, by kernel_rfl, by kernel_rfl⟩
theorem cb7 : Callable Try.prog 7 := ⟨Try.f7, Try.func7, by kernel_rfl, by kernel_rfl⟩
theorem cb8 : Callable Try.prog 8 := ⟨Try.f8, Try.func8, by kernel_rfl, by kernel_rfl⟩
theorem cb9 : Callable Try.prog 9 := ⟨Try.f9, Try.func9, by kernel_rfl, by kernel_rfl⟩
theorem cb10 : Callable Try.prog 10 := ⟨Try.f10, Try.func10, by kernel_rfl, by kernel_rfl⟩
theorem cb11 : Callable Try.prog 11 := ⟨Try.f11, Try.func11, by kernel_rfl, by kernel_rfl⟩
theorem cb12 : Callable Try.prog 12 := ⟨Try.f12, Try.func12, by kernel_rfl, by kernel_rfl⟩
theorem cb13 : Callable Try.prog 13 := ⟨Try.f13, Try.func13, by kernel_rfl, by kernel_rfl⟩
theorem cb14 : Callable Try.prog 14 := ⟨Try.f14, Try.func14, by kernel_rfl, by kernel_rfl⟩
theorem cb15 : Callable Try.prog 15 := ⟨Try.f15, Try.func15, by kernel_rfl, by kernel_rfl⟩
theorem cb16 : Callable Try.prog 16 := ⟨Try.f16, Try.func16, by kernel_rfl, by kernel_rfl⟩
theorem cb17 : Callable Try.prog 17 := ⟨Try.f17, Try.func17, by kernel_rfl, by kernel_rfl⟩
theorem cb18 : Callable Try.prog 18 := ⟨Try.f18, Try.func18, by kernel_rfl, by kernel_rfl⟩
theorem cb19 : Callable Try.prog 19 := ⟨Try.f19, Try.func19, by kernel_rfl, by kernel_rfl⟩
theorem cb20 : Callable Try.prog 20 := ⟨Try.f20, Try.func20, by kernel_rfl, by kernel_rfl⟩
theorem cb21 : Callable Try.prog 21 := ⟨Try.f21, Try.func21, by kernel_rfl, by kernel_rfl⟩
theorem cb22 : Callable Try.prog 22 := ⟨Try.f22, Try.func22, by kernel_rfl, by kernel_rfl⟩
theorem cb23 : Callable Try.prog 23 := ⟨Try.f23, Try.func23, by kernel_rfl, by kernel_rfl⟩
theorem cb24 : Callable Try.prog 24 := ⟨Try.f24, Try.func24, by kernel_rfl, by kernel_rfl⟩
theorem cb25 : Callable Try.prog 25 := ⟨Try.f25, Try.func25, by kernel_rfl, by kernel_rfl⟩
theorem cb26 : Callable Try.prog 26 := ⟨Try.f26, Try.func26, by kernel_rfl, by kernel_rfl⟩
theorem cb27 : Callable Try.prog 27 := ⟨Try.f27, Try.func27, by kernel_rfl, by kernel_rfl⟩
theorem cb28 : Callable Try.prog 28 := ⟨Try.f28, Try.func28, by kernel_rfl, by kernel_rfl⟩
theorem cb29 : Callable Try.prog 29 := ⟨Try.f29, Try.func29, by kernel_rfl, by kernel_rfl⟩
theorem cb30 : Callable Try.prog 30 := ⟨Try.f30, Try.func30, by kernel_rfl, by kernel_rfl⟩
theorem cb31 : Callable Try.prog 31 := ⟨Try.f31, Try.func31, by kernel_rfl, by kernel_rfl⟩
theorem cb32 : Callable Try.prog 32 := ⟨Try.f32, Try.func32, by kernel_rfl, by kernel_rfl⟩
theorem cb33 : Callable Try.prog 33 := ⟨Try.f33, Try.func33, by kernel_rfl, by kernel_rfl⟩
theorem cb34 : Callable Try.prog 34 := ⟨Try.f34, Try.func34, by kernel_rfl, by kernel_rfl⟩
theorem cb35 : Callable Try.prog 35 := ⟨Try.f35, Try.func35, by kernel_rfl, by kernel_rfl⟩
theorem cb36 : Callable Try.prog 36 := ⟨Try.f36, Try.func36, by kernel_rfl, by kernel_rfl⟩
theorem cb37 : Callable Try.prog 37 := ⟨Try.f37, Try.func37, by kernel_rfl, by kernel_rfl⟩
end Go.Proofs.Qxb6001307a
