/-
  No cell of these rows narrows 'for every input' (looked for: loops, veiled, ifaces, maps, wideKeys, modest, calm, conditions, laid).
  DERIVED. THE GIVEN ROWS OF THIS SEAT. 8 by the template 'for every input the law returns true; each argument reads behind the call as it read before'; 0 by the template 'total and deterministic' (their statements: Qxb6602784aTotals.lean).
  GIVEN WITH THE SEED: the statements are not yours to turn. If you find one false, say at which input.
  Laid BY PROGRAM, IN A SANDBOX (cutbox-rows.mjs): the forced cells as the released guide's own fill.sh prints them over the translation 74245d8eeaae8ce7… (all of the seat's roots in one cut). By AI agents, Wed Nov 11 2026. No macro, syntax, notation, axiom, sorry.
-/
import Derived.Test.Qxb6602784aChecked
import GoSem.Claim
import GoSem.ClaimJoined
import GoSem.ClaimMapViews
import Derived.JoinedTies
import Derived.KernelRfl
namespace Go.Proofs.Qxb6602784a
/- THE CELL 'sum', in the pinned program and in every row, IS THE sha256 OF THE DUMP (.gsa) THAT Qxb6602784aProg.lean LOADS. Nothing in Lean hashes anything: it is a label: what it is worth is what the hold of that sum in a sandbox is worth. -/
noncomputable def Try.pinned : Pinned := { name := "qxb6602784a", sum := "74245d8eeaae8ce70b3866a2ac49413b767f381f2ea15ce1fb6e53c806a800ba", checked := Try.checked }
namespace Rows
def none {H : Type} : Left H := { results := [], args := [] }

/-- 'zzlaws_internal_graph_b1.FnDistinctKeepsFirstOccurrences': WHATEVER THE INPUT: true; the input reads as it did. -/
def fnDistinctKeepsFirstOccurrencesSpec : ChangeSpec := { name := "fnDistinctKeepsFirstOccurrences", fn := fun _ => fun
  | [d] => { results := [.lit (.bool true)], args := [d] }
  | _ => none }
def fnDistinctKeepsFirstOccurrencesRow : OpenClaim := { program := "qxb6602784a", sum := "74245d8eeaae8ce70b3866a2ac49413b767f381f2ea15ce1fb6e53c806a800ba", func := "example.com/quorumvine/quorumvine/zzlaws_internal_graph_b1.FnDistinctKeepsFirstOccurrences", spec := "fnDistinctKeepsFirstOccurrences", apart := false }
def FnDistinctKeepsFirstOccurrencesSaid : Prop := fnDistinctKeepsFirstOccurrencesRow.holds Try.pinned (OpenSpec.ofChange fnDistinctKeepsFirstOccurrencesSpec)

/-- ITS FALSE NEIGHBOUR: 'it returns false'. Refute it at one input. -/
def fnDistinctKeepsFirstOccurrencesWrong : ChangeSpec := { name := "fnDistinctKeepsFirstOccurrences", fn := fun _ => fun
  | [d] => { results := [.lit (.bool false)], args := [d] }
  | _ => none }
def FnDistinctKeepsFirstOccurrencesWrongFalsely : Prop := fnDistinctKeepsFirstOccurrencesRow.holds Try.pinned (OpenSpec.ofChange fnDistinctKeepsFirstOccurrencesWrong)

/-- 'zzlaws_internal_graph_b1.FnDistinctIdempotentAndRepeatFree': WHATEVER THE INPUT: true; the input reads as it did. -/
def fnDistinctIdempotentAndRepeatFreeSpec : ChangeSpec := { name := "fnDistinctIdempotentAndRepeatFree", fn := fun _ => fun
  | [d] => { results := [.lit (.bool true)], args := [d] }
  | _ => none }
def fnDistinctIdempotentAndRepeatFreeRow : OpenClaim := { program := "qxb6602784a", sum := "74245d8eeaae8ce70b3866a2ac49413b767f381f2ea15ce1fb6e53c806a800ba", func := "example.com/quorumvine/quorumvine/zzlaws_internal_graph_b1.FnDistinctIdempotentAndRepeatFree", spec := "fnDistinctIdempotentAndRepeatFree", apart := false }
def FnDistinctIdempotentAndRepeatFreeSaid : Prop := fnDistinctIdempotentAndRepeatFreeRow.holds Try.pinned (OpenSpec.ofChange fnDistinctIdempotentAndRepeatFreeSpec)

/-- ITS FALSE NEIGHBOUR: 'it returns false'. Refute it at one input. -/
def fnDistinctIdempotentAndRepeatFreeWrong : ChangeSpec := { name := "fnDistinctIdempotentAndRepeatFree", fn := fun _ => fun
  | [d] => { results := [.lit (.bool false)], args := [d] }
  | _ => none }
def FnDistinctIdempotentAndRepeatFreeWrongFalsely : Prop := fnDistinctIdempotentAndRepeatFreeRow.holds Try.pinned (OpenSpec.ofChange fnDistinctIdempotentAndRepeatFreeWrong)

/-- 'zzlaws_internal_graph_b1.FnDistinctAppendNeverReachesInput': WHATEVER THE INPUT: true; the input reads as it did. -/
def fnDistinctAppendNeverReachesInputSpec : ChangeSpec := { name := "fnDistinctAppendNeverReachesInput", fn := fun _ => fun
  | [d] => { results := [.lit (.bool true)], args := [d] }
  | _ => none }
def fnDistinctAppendNeverReachesInputRow : OpenClaim := { program := "qxb6602784a", sum := "74245d8eeaae8ce70b3866a2ac49413b767f381f2ea15ce1fb6e53c806a800ba", func := "example.com/quorumvine/quorumvine/zzlaws_internal_graph_b1.FnDistinctAppendNeverReachesInput", spec := "fnDistinctAppendNeverReachesInput", apart := false }
def FnDistinctAppendNeverReachesInputSaid : Prop := fnDistinctAppendNeverReachesInputRow.holds Try.pinned (OpenSpec.ofChange fnDistinctAppendNeverReachesInputSpec)

/-- ITS FALSE NEIGHBOUR: 'it returns false'. Refute it at one input. -/
def fnDistinctAppendNeverReachesInputWrong : ChangeSpec := { name := "fnDistinctAppendNeverReachesInput", fn := fun _ => fun
  | [d] => { results := [.lit (.bool false)], args := [d] }
  | _ => none }
def FnDistinctAppendNeverReachesInputWrongFalsely : Prop := fnDistinctAppendNeverReachesInputRow.holds Try.pinned (OpenSpec.ofChange fnDistinctAppendNeverReachesInputWrong)

/-- 'zzlaws_internal_graph_b1.FnRepeatsAgreesWithSortedScan': WHATEVER THE INPUT: true; the input reads as it did. -/
def fnRepeatsAgreesWithSortedScanSpec : ChangeSpec := { name := "fnRepeatsAgreesWithSortedScan", fn := fun _ => fun
  | [d] => { results := [.lit (.bool true)], args := [d] }
  | _ => none }
def fnRepeatsAgreesWithSortedScanRow : OpenClaim := { program := "qxb6602784a", sum := "74245d8eeaae8ce70b3866a2ac49413b767f381f2ea15ce1fb6e53c806a800ba", func := "example.com/quorumvine/quorumvine/zzlaws_internal_graph_b1.FnRepeatsAgreesWithSortedScan", spec := "fnRepeatsAgreesWithSortedScan", apart := false }
def FnRepeatsAgreesWithSortedScanSaid : Prop := fnRepeatsAgreesWithSortedScanRow.holds Try.pinned (OpenSpec.ofChange fnRepeatsAgreesWithSortedScanSpec)

/-- ITS FALSE NEIGHBOUR: 'it returns false'. Refute it at one input. -/
def fnRepeatsAgreesWithSortedScanWrong : ChangeSpec := { name := "fnRepeatsAgreesWithSortedScan", fn := fun _ => fun
  | [d] => { results := [.lit (.bool false)], args := [d] }
  | _ => none }
def FnRepeatsAgreesWithSortedScanWrongFalsely : Prop := fnRepeatsAgreesWithSortedScanRow.holds Try.pinned (OpenSpec.ofChange fnRepeatsAgreesWithSortedScanWrong)

/-- 'zzlaws_internal_graph_b1.FnRepeatsOfAPieceIsOfTheWhole': WHATEVER THE INPUT: true; the input reads as it did. -/
def fnRepeatsOfAPieceIsOfTheWholeSpec : ChangeSpec := { name := "fnRepeatsOfAPieceIsOfTheWhole", fn := fun _ => fun
  | [d1, d2] => { results := [.lit (.bool true)], args := [d1, d2] }
  | _ => none }
def fnRepeatsOfAPieceIsOfTheWholeRow : OpenClaim := { program := "qxb6602784a", sum := "74245d8eeaae8ce70b3866a2ac49413b767f381f2ea15ce1fb6e53c806a800ba", func := "example.com/quorumvine/quorumvine/zzlaws_internal_graph_b1.FnRepeatsOfAPieceIsOfTheWhole", spec := "fnRepeatsOfAPieceIsOfTheWhole", apart := false }
def FnRepeatsOfAPieceIsOfTheWholeSaid : Prop := fnRepeatsOfAPieceIsOfTheWholeRow.holds Try.pinned (OpenSpec.ofChange fnRepeatsOfAPieceIsOfTheWholeSpec)

/-- ITS FALSE NEIGHBOUR: 'it returns false'. Refute it at one input. -/
def fnRepeatsOfAPieceIsOfTheWholeWrong : ChangeSpec := { name := "fnRepeatsOfAPieceIsOfTheWhole", fn := fun _ => fun
  | [d1, d2] => { results := [.lit (.bool false)], args := [d1, d2] }
  | _ => none }
def FnRepeatsOfAPieceIsOfTheWholeWrongFalsely : Prop := fnRepeatsOfAPieceIsOfTheWholeRow.holds Try.pinned (OpenSpec.ofChange fnRepeatsOfAPieceIsOfTheWholeWrong)

/-- 'zzlaws_internal_graph_b1.FnRebalanceLeafKidsExact': WHATEVER THE INPUT: true; the input reads as it did. -/
def fnRebalanceLeafKidsExactSpec : ChangeSpec := { name := "fnRebalanceLeafKidsExact", fn := fun _ => fun
  | [d1, d2, d3, d4, d5] => { results := [.lit (.bool true)], args := [d1, d2, d3, d4, d5] }
  | _ => none }
def fnRebalanceLeafKidsExactRow : OpenClaim := { program := "qxb6602784a", sum := "74245d8eeaae8ce70b3866a2ac49413b767f381f2ea15ce1fb6e53c806a800ba", func := "example.com/quorumvine/quorumvine/zzlaws_internal_graph_b1.FnRebalanceLeafKidsExact", spec := "fnRebalanceLeafKidsExact", apart := false }
def FnRebalanceLeafKidsExactSaid : Prop := fnRebalanceLeafKidsExactRow.holds Try.pinned (OpenSpec.ofChange fnRebalanceLeafKidsExactSpec)

/-- ITS FALSE NEIGHBOUR: 'it returns false'. Refute it at one input. -/
def fnRebalanceLeafKidsExactWrong : ChangeSpec := { name := "fnRebalanceLeafKidsExact", fn := fun _ => fun
  | [d1, d2, d3, d4, d5] => { results := [.lit (.bool false)], args := [d1, d2, d3, d4, d5] }
  | _ => none }
def FnRebalanceLeafKidsExactWrongFalsely : Prop := fnRebalanceLeafKidsExactRow.holds Try.pinned (OpenSpec.ofChange fnRebalanceLeafKidsExactWrong)

/-- 'zzlaws_internal_graph_b1.FnRebalanceInnerKidsExact': WHATEVER THE INPUT: true; the input reads as it did. -/
def fnRebalanceInnerKidsExactSpec : ChangeSpec := { name := "fnRebalanceInnerKidsExact", fn := fun _ => fun
  | [d1, d2, d3, d4, d5, d6] => { results := [.lit (.bool true)], args := [d1, d2, d3, d4, d5, d6] }
  | _ => none }
def fnRebalanceInnerKidsExactRow : OpenClaim := { program := "qxb6602784a", sum := "74245d8eeaae8ce70b3866a2ac49413b767f381f2ea15ce1fb6e53c806a800ba", func := "example.com/quorumvine/quorumvine/zzlaws_internal_graph_b1.FnRebalanceInnerKidsExact", spec := "fnRebalanceInnerKidsExact", apart := false }
def FnRebalanceInnerKidsExactSaid : Prop := fnRebalanceInnerKidsExactRow.holds Try.pinned (OpenSpec.ofChange fnRebalanceInnerKidsExactSpec)

/-- ITS FALSE NEIGHBOUR: 'it returns false'. Refute it at one input. -/
def fnRebalanceInnerKidsExactWrong : ChangeSpec := { name := "fnRebalanceInnerKidsExact", fn := fun _ => fun
  | [d1, d2, d3, d4, d5, d6] => { results := [.lit (.bool false)], args := [d1, d2, d3, d4, d5, d6] }
  | _ => none }
def FnRebalanceInnerKidsExactWrongFalsely : Prop := fnRebalanceInnerKidsExactRow.holds Try.pinned (OpenSpec.ofChange fnRebalanceInnerKidsExactWrong)

/-- 'zzlaws_internal_graph_b1.FnRebalanceRestoresFill': WHATEVER THE INPUT: true; the input reads as it did. -/
def fnRebalanceRestoresFillSpec : ChangeSpec := { name := "fnRebalanceRestoresFill", fn := fun _ => fun
  | [d1, d2, d3, d4, d5] => { results := [.lit (.bool true)], args := [d1, d2, d3, d4, d5] }
  | _ => none }
def fnRebalanceRestoresFillRow : OpenClaim := { program := "qxb6602784a", sum := "74245d8eeaae8ce70b3866a2ac49413b767f381f2ea15ce1fb6e53c806a800ba", func := "example.com/quorumvine/quorumvine/zzlaws_internal_graph_b1.FnRebalanceRestoresFill", spec := "fnRebalanceRestoresFill", apart := false }
def FnRebalanceRestoresFillSaid : Prop := fnRebalanceRestoresFillRow.holds Try.pinned (OpenSpec.ofChange fnRebalanceRestoresFillSpec)

/-- ITS FALSE NEIGHBOUR: 'it returns false'. Refute it at one input. -/
def fnRebalanceRestoresFillWrong : ChangeSpec := { name := "fnRebalanceRestoresFill", fn := fun _ => fun
  | [d1, d2, d3, d4, d5] => { results := [.lit (.bool false)], args := [d1, d2, d3, d4, d5] }
  | _ => none }
def FnRebalanceRestoresFillWrongFalsely : Prop := fnRebalanceRestoresFillRow.holds Try.pinned (OpenSpec.ofChange fnRebalanceRestoresFillWrong)

end Rows
end Go.Proofs.Qxb6602784a
