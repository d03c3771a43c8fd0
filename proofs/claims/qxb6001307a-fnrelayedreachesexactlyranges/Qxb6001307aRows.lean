/-
  No cell of these rows narrows 'for every input' (looked for: loops, veiled, ifaces, maps, wideKeys, modest, calm, conditions, laid).
  DERIVED. THE GIVEN ROWS OF THIS SEAT. 5 by the template 'for every input the law returns true; each argument reads behind the call as it read before'; 0 by the template 'total and deterministic' (their statements: Qxb6001307aTotals.lean).
  GIVEN WITH THE SEED: the statements are not yours to turn. If you find one false, say at which input.
  Laid BY PROGRAM, IN A SANDBOX (cutbox-rows.mjs): the forced cells as the released guide's own fill.sh prints them over the translation 658f456d57549e27… (all of the seat's roots in one cut). By AI agents, Wed Nov 11 2026. No macro, syntax, notation, axiom, sorry.
-/
import Derived.Test.Qxb6001307aChecked
import GoSem.Claim
import GoSem.ClaimJoined
import GoSem.ClaimMapViews
import Derived.JoinedTies
import Derived.KernelRfl
namespace Go.Proofs.Qxb6001307a
/- THE CELL 'sum', in the pinned program and in every row, IS THE sha256 OF THE DUMP (.gsa) THAT Qxb6001307aProg.lean LOADS. Nothing in Lean hashes anything: it is a label: what it is worth is what the hold of that sum in a sandbox is worth. -/
noncomputable def Try.pinned : Pinned := { name := "qxb6001307a", sum := "658f456d57549e27d9a77ce1328bf2594e404c1277eaebe281597b5f6b78655a", checked := Try.checked }
namespace Rows
def none {H : Type} : Left H := { results := [], args := [] }

/-- 'zzlaws_isolation_b1.FnTakeScriptTilesStack': WHATEVER THE INPUT: true; the input reads as it did. -/
def fnTakeScriptTilesStackSpec : ChangeSpec := { name := "fnTakeScriptTilesStack", fn := fun _ => fun
  | [d1, d2, d3, d4, d5, d6, d7] => { results := [.lit (.bool true)], args := [d1, d2, d3, d4, d5, d6, d7] }
  | _ => none }
def fnTakeScriptTilesStackRow : OpenClaim := { program := "qxb6001307a", sum := "658f456d57549e27d9a77ce1328bf2594e404c1277eaebe281597b5f6b78655a", func := "example.com/antidep/antidep/zzlaws_isolation_b1.FnTakeScriptTilesStack", spec := "fnTakeScriptTilesStack", apart := false }
def FnTakeScriptTilesStackSaid : Prop := fnTakeScriptTilesStackRow.holds Try.pinned (OpenSpec.ofChange fnTakeScriptTilesStackSpec)

/-- ITS FALSE NEIGHBOUR: 'it returns false'. Refute it at one input. -/
def fnTakeScriptTilesStackWrong : ChangeSpec := { name := "fnTakeScriptTilesStack", fn := fun _ => fun
  | [d1, d2, d3, d4, d5, d6, d7] => { results := [.lit (.bool false)], args := [d1, d2, d3, d4, d5, d6, d7] }
  | _ => none }
def FnTakeScriptTilesStackWrongFalsely : Prop := fnTakeScriptTilesStackRow.holds Try.pinned (OpenSpec.ofChange fnTakeScriptTilesStackWrong)

/-- 'zzlaws_isolation_b1.FnSplitGivesStrongComponents': WHATEVER THE INPUT: true; the input reads as it did. -/
def fnSplitGivesStrongComponentsSpec : ChangeSpec := { name := "fnSplitGivesStrongComponents", fn := fun _ => fun
  | [d1, d2, d3, d4, d5] => { results := [.lit (.bool true)], args := [d1, d2, d3, d4, d5] }
  | _ => none }
def fnSplitGivesStrongComponentsRow : OpenClaim := { program := "qxb6001307a", sum := "658f456d57549e27d9a77ce1328bf2594e404c1277eaebe281597b5f6b78655a", func := "example.com/antidep/antidep/zzlaws_isolation_b1.FnSplitGivesStrongComponents", spec := "fnSplitGivesStrongComponents", unfollowed := true, recurses := true, apart := false }
def FnSplitGivesStrongComponentsSaid : Prop := fnSplitGivesStrongComponentsRow.holds Try.pinned (OpenSpec.ofChange fnSplitGivesStrongComponentsSpec)

/-- ITS FALSE NEIGHBOUR: 'it returns false'. Refute it at one input. -/
def fnSplitGivesStrongComponentsWrong : ChangeSpec := { name := "fnSplitGivesStrongComponents", fn := fun _ => fun
  | [d1, d2, d3, d4, d5] => { results := [.lit (.bool false)], args := [d1, d2, d3, d4, d5] }
  | _ => none }
def FnSplitGivesStrongComponentsWrongFalsely : Prop := fnSplitGivesStrongComponentsRow.holds Try.pinned (OpenSpec.ofChange fnSplitGivesStrongComponentsWrong)

/-- 'zzlaws_isolation_b1.FnRelayedReachesExactlyRanges': WHATEVER THE INPUT: true; the input reads as it did. -/
def fnRelayedReachesExactlyRangesSpec : ChangeSpec := { name := "fnRelayedReachesExactlyRanges", fn := fun _ => fun
  | [d1, d2, d3, d4, d5, d6, d7, d8, d9] => { results := [.lit (.bool true)], args := [d1, d2, d3, d4, d5, d6, d7, d8, d9] }
  | _ => none }
def fnRelayedReachesExactlyRangesRow : OpenClaim := { program := "qxb6001307a", sum := "658f456d57549e27d9a77ce1328bf2594e404c1277eaebe281597b5f6b78655a", func := "example.com/antidep/antidep/zzlaws_isolation_b1.FnRelayedReachesExactlyRanges", spec := "fnRelayedReachesExactlyRanges", apart := false }
def FnRelayedReachesExactlyRangesSaid : Prop := fnRelayedReachesExactlyRangesRow.holds Try.pinned (OpenSpec.ofChange fnRelayedReachesExactlyRangesSpec)

/-- ITS FALSE NEIGHBOUR: 'it returns false'. Refute it at one input. -/
def fnRelayedReachesExactlyRangesWrong : ChangeSpec := { name := "fnRelayedReachesExactlyRanges", fn := fun _ => fun
  | [d1, d2, d3, d4, d5, d6, d7, d8, d9] => { results := [.lit (.bool false)], args := [d1, d2, d3, d4, d5, d6, d7, d8, d9] }
  | _ => none }
def FnRelayedReachesExactlyRangesWrongFalsely : Prop := fnRelayedReachesExactlyRangesRow.holds Try.pinned (OpenSpec.ofChange fnRelayedReachesExactlyRangesWrong)

/-- 'zzlaws_isolation_b1.FnRelayedOnlyAddsRelays': WHATEVER THE INPUT: true; the input reads as it did. -/
def fnRelayedOnlyAddsRelaysSpec : ChangeSpec := { name := "fnRelayedOnlyAddsRelays", fn := fun _ => fun
  | [d1, d2, d3, d4, d5, d6, d7, d8, d9] => { results := [.lit (.bool true)], args := [d1, d2, d3, d4, d5, d6, d7, d8, d9] }
  | _ => none }
def fnRelayedOnlyAddsRelaysRow : OpenClaim := { program := "qxb6001307a", sum := "658f456d57549e27d9a77ce1328bf2594e404c1277eaebe281597b5f6b78655a", func := "example.com/antidep/antidep/zzlaws_isolation_b1.FnRelayedOnlyAddsRelays", spec := "fnRelayedOnlyAddsRelays", apart := false }
def FnRelayedOnlyAddsRelaysSaid : Prop := fnRelayedOnlyAddsRelaysRow.holds Try.pinned (OpenSpec.ofChange fnRelayedOnlyAddsRelaysSpec)

/-- ITS FALSE NEIGHBOUR: 'it returns false'. Refute it at one input. -/
def fnRelayedOnlyAddsRelaysWrong : ChangeSpec := { name := "fnRelayedOnlyAddsRelays", fn := fun _ => fun
  | [d1, d2, d3, d4, d5, d6, d7, d8, d9] => { results := [.lit (.bool false)], args := [d1, d2, d3, d4, d5, d6, d7, d8, d9] }
  | _ => none }
def FnRelayedOnlyAddsRelaysWrongFalsely : Prop := fnRelayedOnlyAddsRelaysRow.holds Try.pinned (OpenSpec.ofChange fnRelayedOnlyAddsRelaysWrong)

/-- 'zzlaws_isolation_b1.FnRelayedKeepsEdgesSorted': WHATEVER THE INPUT: true; the input reads as it did. -/
def fnRelayedKeepsEdgesSortedSpec : ChangeSpec := { name := "fnRelayedKeepsEdgesSorted", fn := fun _ => fun
  | [d1, d2, d3, d4, d5, d6, d7, d8, d9] => { results := [.lit (.bool true)], args := [d1, d2, d3, d4, d5, d6, d7, d8, d9] }
  | _ => none }
def fnRelayedKeepsEdgesSortedRow : OpenClaim := { program := "qxb6001307a", sum := "658f456d57549e27d9a77ce1328bf2594e404c1277eaebe281597b5f6b78655a", func := "example.com/antidep/antidep/zzlaws_isolation_b1.FnRelayedKeepsEdgesSorted", spec := "fnRelayedKeepsEdgesSorted", apart := false }
def FnRelayedKeepsEdgesSortedSaid : Prop := fnRelayedKeepsEdgesSortedRow.holds Try.pinned (OpenSpec.ofChange fnRelayedKeepsEdgesSortedSpec)

/-- ITS FALSE NEIGHBOUR: 'it returns false'. Refute it at one input. -/
def fnRelayedKeepsEdgesSortedWrong : ChangeSpec := { name := "fnRelayedKeepsEdgesSorted", fn := fun _ => fun
  | [d1, d2, d3, d4, d5, d6, d7, d8, d9] => { results := [.lit (.bool false)], args := [d1, d2, d3, d4, d5, d6, d7, d8, d9] }
  | _ => none }
def FnRelayedKeepsEdgesSortedWrongFalsely : Prop := fnRelayedKeepsEdgesSortedRow.holds Try.pinned (OpenSpec.ofChange fnRelayedKeepsEdgesSortedWrong)

end Rows
end Go.Proofs.Qxb6001307a
