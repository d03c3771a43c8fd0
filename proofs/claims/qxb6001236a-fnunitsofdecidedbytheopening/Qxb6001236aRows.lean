/-
  No cell of these rows narrows 'for every input' (looked for: loops, veiled, ifaces, maps, wideKeys, modest, calm, conditions, laid).
  DERIVED. THE GIVEN ROWS OF THIS SEAT. 6 by the template 'for every input the law returns true; each argument reads behind the call as it read before'; 0 by the template 'total and deterministic' (their statements: Qxb6001236aTotals.lean).
  GIVEN WITH THE SEED: the statements are not yours to turn. If you find one false, say at which input.
  Laid BY PROGRAM, IN A SANDBOX (cutbox-rows.mjs): the forced cells as the released guide's own fill.sh prints them over the translation 4c90702d855ffb1b… (all of the seat's roots in one cut). By AI agents, Wed Nov 11 2026. No macro, syntax, notation, axiom, sorry.
-/
import Derived.Test.Qxb6001236aChecked
import GoSem.Claim
import GoSem.ClaimJoined
import GoSem.ClaimMapViews
import Derived.JoinedTies
import Derived.KernelRfl
namespace Go.Proofs.Qxb6001236a
/- THE CELL 'sum', in the pinned program and in every row, IS THE sha256 OF THE DUMP (.gsa) THAT Qxb6001236aProg.lean LOADS. Nothing in Lean hashes anything: it is a label: what it is worth is what the hold of that sum in a sandbox is worth. -/
noncomputable def Try.pinned : Pinned := { name := "qxb6001236a", sum := "4c90702d855ffb1b8c948e0abeaabdd8dfdeb4d1ae0a18eb0c12c6de3130d729", checked := Try.checked }
namespace Rows
def none {H : Type} : Left H := { results := [], args := [] }

/-- 'zzlaws_pkg_book_b1.FnCountValuesSameInEveryEncoding': WHATEVER THE INPUT: true; the input reads as it did. -/
def fnCountValuesSameInEveryEncodingSpec : ChangeSpec := { name := "fnCountValuesSameInEveryEncoding", fn := fun _ => fun
  | [d1, d2] => { results := [.lit (.bool true)], args := [d1, d2] }
  | _ => none }
def fnCountValuesSameInEveryEncodingRow : OpenClaim := { program := "qxb6001236a", sum := "4c90702d855ffb1b8c948e0abeaabdd8dfdeb4d1ae0a18eb0c12c6de3130d729", func := "example.com/vestline/vestline/zzlaws_pkg_book_b1.FnCountValuesSameInEveryEncoding", spec := "fnCountValuesSameInEveryEncoding", apart := false }
def FnCountValuesSameInEveryEncodingSaid : Prop := fnCountValuesSameInEveryEncodingRow.holds Try.pinned (OpenSpec.ofChange fnCountValuesSameInEveryEncodingSpec)

/-- ITS FALSE NEIGHBOUR: 'it returns false'. Refute it at one input. -/
def fnCountValuesSameInEveryEncodingWrong : ChangeSpec := { name := "fnCountValuesSameInEveryEncoding", fn := fun _ => fun
  | [d1, d2] => { results := [.lit (.bool false)], args := [d1, d2] }
  | _ => none }
def FnCountValuesSameInEveryEncodingWrongFalsely : Prop := fnCountValuesSameInEveryEncodingRow.holds Try.pinned (OpenSpec.ofChange fnCountValuesSameInEveryEncodingWrong)

/-- 'zzlaws_pkg_book_b1.FnCountValuesStopsAtTheFirstUnitPastLimit': WHATEVER THE INPUT: true; the input reads as it did. -/
def fnCountValuesStopsAtTheFirstUnitPastLimitSpec : ChangeSpec := { name := "fnCountValuesStopsAtTheFirstUnitPastLimit", fn := fun _ => fun
  | [d1, d2] => { results := [.lit (.bool true)], args := [d1, d2] }
  | _ => none }
def fnCountValuesStopsAtTheFirstUnitPastLimitRow : OpenClaim := { program := "qxb6001236a", sum := "4c90702d855ffb1b8c948e0abeaabdd8dfdeb4d1ae0a18eb0c12c6de3130d729", func := "example.com/vestline/vestline/zzlaws_pkg_book_b1.FnCountValuesStopsAtTheFirstUnitPastLimit", spec := "fnCountValuesStopsAtTheFirstUnitPastLimit", apart := false }
def FnCountValuesStopsAtTheFirstUnitPastLimitSaid : Prop := fnCountValuesStopsAtTheFirstUnitPastLimitRow.holds Try.pinned (OpenSpec.ofChange fnCountValuesStopsAtTheFirstUnitPastLimitSpec)

/-- ITS FALSE NEIGHBOUR: 'it returns false'. Refute it at one input. -/
def fnCountValuesStopsAtTheFirstUnitPastLimitWrong : ChangeSpec := { name := "fnCountValuesStopsAtTheFirstUnitPastLimit", fn := fun _ => fun
  | [d1, d2] => { results := [.lit (.bool false)], args := [d1, d2] }
  | _ => none }
def FnCountValuesStopsAtTheFirstUnitPastLimitWrongFalsely : Prop := fnCountValuesStopsAtTheFirstUnitPastLimitRow.holds Try.pinned (OpenSpec.ofChange fnCountValuesStopsAtTheFirstUnitPastLimitWrong)

/-- 'zzlaws_pkg_book_b1.FnCountValuesAddsOverLines': WHATEVER THE INPUT: true; the input reads as it did. -/
def fnCountValuesAddsOverLinesSpec : ChangeSpec := { name := "fnCountValuesAddsOverLines", fn := fun _ => fun
  | [d1, d2] => { results := [.lit (.bool true)], args := [d1, d2] }
  | _ => none }
def fnCountValuesAddsOverLinesRow : OpenClaim := { program := "qxb6001236a", sum := "4c90702d855ffb1b8c948e0abeaabdd8dfdeb4d1ae0a18eb0c12c6de3130d729", func := "example.com/vestline/vestline/zzlaws_pkg_book_b1.FnCountValuesAddsOverLines", spec := "fnCountValuesAddsOverLines", apart := false }
def FnCountValuesAddsOverLinesSaid : Prop := fnCountValuesAddsOverLinesRow.holds Try.pinned (OpenSpec.ofChange fnCountValuesAddsOverLinesSpec)

/-- ITS FALSE NEIGHBOUR: 'it returns false'. Refute it at one input. -/
def fnCountValuesAddsOverLinesWrong : ChangeSpec := { name := "fnCountValuesAddsOverLines", fn := fun _ => fun
  | [d1, d2] => { results := [.lit (.bool false)], args := [d1, d2] }
  | _ => none }
def FnCountValuesAddsOverLinesWrongFalsely : Prop := fnCountValuesAddsOverLinesRow.holds Try.pinned (OpenSpec.ofChange fnCountValuesAddsOverLinesWrong)

/-- 'zzlaws_pkg_book_b1.FnUnitsOfDecidedByTheOpening': WHATEVER THE INPUT: true; the input reads as it did. -/
def fnUnitsOfDecidedByTheOpeningSpec : ChangeSpec := { name := "fnUnitsOfDecidedByTheOpening", fn := fun _ => fun
  | [d1, d2] => { results := [.lit (.bool true)], args := [d1, d2] }
  | _ => none }
def fnUnitsOfDecidedByTheOpeningRow : OpenClaim := { program := "qxb6001236a", sum := "4c90702d855ffb1b8c948e0abeaabdd8dfdeb4d1ae0a18eb0c12c6de3130d729", func := "example.com/vestline/vestline/zzlaws_pkg_book_b1.FnUnitsOfDecidedByTheOpening", spec := "fnUnitsOfDecidedByTheOpening", apart := false }
def FnUnitsOfDecidedByTheOpeningSaid : Prop := fnUnitsOfDecidedByTheOpeningRow.holds Try.pinned (OpenSpec.ofChange fnUnitsOfDecidedByTheOpeningSpec)

/-- ITS FALSE NEIGHBOUR: 'it returns false'. Refute it at one input. -/
def fnUnitsOfDecidedByTheOpeningWrong : ChangeSpec := { name := "fnUnitsOfDecidedByTheOpening", fn := fun _ => fun
  | [d1, d2] => { results := [.lit (.bool false)], args := [d1, d2] }
  | _ => none }
def FnUnitsOfDecidedByTheOpeningWrongFalsely : Prop := fnUnitsOfDecidedByTheOpeningRow.holds Try.pinned (OpenSpec.ofChange fnUnitsOfDecidedByTheOpeningWrong)

/-- 'zzlaws_pkg_book_b1.FnBreakAtSameInEveryEncoding': WHATEVER THE INPUT: true; the input reads as it did. -/
def fnBreakAtSameInEveryEncodingSpec : ChangeSpec := { name := "fnBreakAtSameInEveryEncoding", fn := fun _ => fun
  | [d] => { results := [.lit (.bool true)], args := [d] }
  | _ => none }
def fnBreakAtSameInEveryEncodingRow : OpenClaim := { program := "qxb6001236a", sum := "4c90702d855ffb1b8c948e0abeaabdd8dfdeb4d1ae0a18eb0c12c6de3130d729", func := "example.com/vestline/vestline/zzlaws_pkg_book_b1.FnBreakAtSameInEveryEncoding", spec := "fnBreakAtSameInEveryEncoding", apart := false }
def FnBreakAtSameInEveryEncodingSaid : Prop := fnBreakAtSameInEveryEncodingRow.holds Try.pinned (OpenSpec.ofChange fnBreakAtSameInEveryEncodingSpec)

/-- ITS FALSE NEIGHBOUR: 'it returns false'. Refute it at one input. -/
def fnBreakAtSameInEveryEncodingWrong : ChangeSpec := { name := "fnBreakAtSameInEveryEncoding", fn := fun _ => fun
  | [d] => { results := [.lit (.bool false)], args := [d] }
  | _ => none }
def FnBreakAtSameInEveryEncodingWrongFalsely : Prop := fnBreakAtSameInEveryEncodingRow.holds Try.pinned (OpenSpec.ofChange fnBreakAtSameInEveryEncodingWrong)

/-- 'zzlaws_pkg_book_b1.FnBreakAtStaysInsideTheBook': WHATEVER THE INPUT: true; the input reads as it did. -/
def fnBreakAtStaysInsideTheBookSpec : ChangeSpec := { name := "fnBreakAtStaysInsideTheBook", fn := fun _ => fun
  | [d1, d2] => { results := [.lit (.bool true)], args := [d1, d2] }
  | _ => none }
def fnBreakAtStaysInsideTheBookRow : OpenClaim := { program := "qxb6001236a", sum := "4c90702d855ffb1b8c948e0abeaabdd8dfdeb4d1ae0a18eb0c12c6de3130d729", func := "example.com/vestline/vestline/zzlaws_pkg_book_b1.FnBreakAtStaysInsideTheBook", spec := "fnBreakAtStaysInsideTheBook", apart := false }
def FnBreakAtStaysInsideTheBookSaid : Prop := fnBreakAtStaysInsideTheBookRow.holds Try.pinned (OpenSpec.ofChange fnBreakAtStaysInsideTheBookSpec)

/-- ITS FALSE NEIGHBOUR: 'it returns false'. Refute it at one input. -/
def fnBreakAtStaysInsideTheBookWrong : ChangeSpec := { name := "fnBreakAtStaysInsideTheBook", fn := fun _ => fun
  | [d1, d2] => { results := [.lit (.bool false)], args := [d1, d2] }
  | _ => none }
def FnBreakAtStaysInsideTheBookWrongFalsely : Prop := fnBreakAtStaysInsideTheBookRow.holds Try.pinned (OpenSpec.ofChange fnBreakAtStaysInsideTheBookWrong)

end Rows
end Go.Proofs.Qxb6001236a
