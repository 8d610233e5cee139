/-
  No cell of these rows narrows 'for every input' (looked for: loops, veiled, ifaces, maps, wideKeys, modest, calm, conditions, laid).
  DERIVED. THE GIVEN ROWS OF THIS SEAT. 5 by the template 'for every input the law returns true; each argument reads behind the call as it read before'; 0 by the template 'total and deterministic' (their statements: Qxb6600752aTotals.lean).
  GIVEN WITH THE SEED: the statements are not yours to turn. If you find one false, say at which input.
  Laid BY PROGRAM, IN A SANDBOX (cutbox-rows.mjs): the forced cells as the released guide's own fill.sh prints them over the translation dac8c021ff9823a8… (all of the seat's roots in one cut). By AI agents, Wed Nov 11 2026. No macro, syntax, notation, axiom, sorry.
-/
import Derived.Test.Qxb6600752aChecked
import GoSem.Claim
import GoSem.ClaimJoined
import GoSem.ClaimMapViews
import Derived.JoinedTies
import Derived.KernelRfl
namespace Go.Proofs.Qxb6600752a
/- THE CELL 'sum', in the pinned program and in every row, IS THE sha256 OF THE DUMP (.gsa) THAT Qxb6600752aProg.lean LOADS. Nothing in Lean hashes anything: it is a label: what it is worth is what the hold of that sum in a sandbox is worth. -/
noncomputable def Try.pinned : Pinned := { name := "qxb6600752a", sum := "dac8c021ff9823a82a7fa9f11446b7630073a6893a3c2b6a2f88b14889c9734a", checked := Try.checked }
namespace Rows
def none {H : Type} : Left H := { results := [], args := [] }

/-- 'zzlaws_internal_check_b1.FnPrecedenceIsTheAllPairsConflictGraph': WHATEVER THE INPUT: true; the input reads as it did. -/
def fnPrecedenceIsTheAllPairsConflictGraphSpec : ChangeSpec := { name := "fnPrecedenceIsTheAllPairsConflictGraph", fn := fun _ => fun
  | [d1, d2, d3, d4] => { results := [.lit (.bool true)], args := [d1, d2, d3, d4] }
  | _ => none }
def fnPrecedenceIsTheAllPairsConflictGraphRow : OpenClaim := { program := "qxb6600752a", sum := "dac8c021ff9823a82a7fa9f11446b7630073a6893a3c2b6a2f88b14889c9734a", func := "example.com/serialwise/serialwise/zzlaws_internal_check_b1.FnPrecedenceIsTheAllPairsConflictGraph", spec := "fnPrecedenceIsTheAllPairsConflictGraph", plainKeys := false, apart := false }
def FnPrecedenceIsTheAllPairsConflictGraphSaid : Prop := fnPrecedenceIsTheAllPairsConflictGraphRow.holds Try.pinned (OpenSpec.ofChange fnPrecedenceIsTheAllPairsConflictGraphSpec)

/-- ITS FALSE NEIGHBOUR: 'it returns false'. Refute it at one input. -/
def fnPrecedenceIsTheAllPairsConflictGraphWrong : ChangeSpec := { name := "fnPrecedenceIsTheAllPairsConflictGraph", fn := fun _ => fun
  | [d1, d2, d3, d4] => { results := [.lit (.bool false)], args := [d1, d2, d3, d4] }
  | _ => none }
def FnPrecedenceIsTheAllPairsConflictGraphWrongFalsely : Prop := fnPrecedenceIsTheAllPairsConflictGraphRow.holds Try.pinned (OpenSpec.ofChange fnPrecedenceIsTheAllPairsConflictGraphWrong)

/-- 'zzlaws_internal_check_b1.FnViewRulesAcceptExactlyTheViewEquivalentOrders': WHATEVER THE INPUT: true; the input reads as it did. -/
def fnViewRulesAcceptExactlyTheViewEquivalentOrdersSpec : ChangeSpec := { name := "fnViewRulesAcceptExactlyTheViewEquivalentOrders", fn := fun _ => fun
  | [d1, d2, d3, d4, d5] => { results := [.lit (.bool true)], args := [d1, d2, d3, d4, d5] }
  | _ => none }
def fnViewRulesAcceptExactlyTheViewEquivalentOrdersRow : OpenClaim := { program := "qxb6600752a", sum := "dac8c021ff9823a82a7fa9f11446b7630073a6893a3c2b6a2f88b14889c9734a", func := "example.com/serialwise/serialwise/zzlaws_internal_check_b1.FnViewRulesAcceptExactlyTheViewEquivalentOrders", spec := "fnViewRulesAcceptExactlyTheViewEquivalentOrders", plainKeys := false, apart := false }
def FnViewRulesAcceptExactlyTheViewEquivalentOrdersSaid : Prop := fnViewRulesAcceptExactlyTheViewEquivalentOrdersRow.holds Try.pinned (OpenSpec.ofChange fnViewRulesAcceptExactlyTheViewEquivalentOrdersSpec)

/-- ITS FALSE NEIGHBOUR: 'it returns false'. Refute it at one input. -/
def fnViewRulesAcceptExactlyTheViewEquivalentOrdersWrong : ChangeSpec := { name := "fnViewRulesAcceptExactlyTheViewEquivalentOrders", fn := fun _ => fun
  | [d1, d2, d3, d4, d5] => { results := [.lit (.bool false)], args := [d1, d2, d3, d4, d5] }
  | _ => none }
def FnViewRulesAcceptExactlyTheViewEquivalentOrdersWrongFalsely : Prop := fnViewRulesAcceptExactlyTheViewEquivalentOrdersRow.holds Try.pinned (OpenSpec.ofChange fnViewRulesAcceptExactlyTheViewEquivalentOrdersWrong)

/-- 'zzlaws_internal_check_b1.FnPrecedenceOfSerialHistoryPointsForward': WHATEVER THE INPUT: true; the input reads as it did. -/
def fnPrecedenceOfSerialHistoryPointsForwardSpec : ChangeSpec := { name := "fnPrecedenceOfSerialHistoryPointsForward", fn := fun _ => fun
  | [d1, d2, d3, d4] => { results := [.lit (.bool true)], args := [d1, d2, d3, d4] }
  | _ => none }
def fnPrecedenceOfSerialHistoryPointsForwardRow : OpenClaim := { program := "qxb6600752a", sum := "dac8c021ff9823a82a7fa9f11446b7630073a6893a3c2b6a2f88b14889c9734a", func := "example.com/serialwise/serialwise/zzlaws_internal_check_b1.FnPrecedenceOfSerialHistoryPointsForward", spec := "fnPrecedenceOfSerialHistoryPointsForward", plainKeys := false, apart := false }
def FnPrecedenceOfSerialHistoryPointsForwardSaid : Prop := fnPrecedenceOfSerialHistoryPointsForwardRow.holds Try.pinned (OpenSpec.ofChange fnPrecedenceOfSerialHistoryPointsForwardSpec)

/-- ITS FALSE NEIGHBOUR: 'it returns false'. Refute it at one input. -/
def fnPrecedenceOfSerialHistoryPointsForwardWrong : ChangeSpec := { name := "fnPrecedenceOfSerialHistoryPointsForward", fn := fun _ => fun
  | [d1, d2, d3, d4] => { results := [.lit (.bool false)], args := [d1, d2, d3, d4] }
  | _ => none }
def FnPrecedenceOfSerialHistoryPointsForwardWrongFalsely : Prop := fnPrecedenceOfSerialHistoryPointsForwardRow.holds Try.pinned (OpenSpec.ofChange fnPrecedenceOfSerialHistoryPointsForwardWrong)

/-- 'zzlaws_internal_check_b1.FnAbortedTransactionLeavesGraphAndRulesAlone': WHATEVER THE INPUT: true; the input reads as it did. -/
def fnAbortedTransactionLeavesGraphAndRulesAloneSpec : ChangeSpec := { name := "fnAbortedTransactionLeavesGraphAndRulesAlone", fn := fun _ => fun
  | [d1, d2, d3, d4, d5] => { results := [.lit (.bool true)], args := [d1, d2, d3, d4, d5] }
  | _ => none }
def fnAbortedTransactionLeavesGraphAndRulesAloneRow : OpenClaim := { program := "qxb6600752a", sum := "dac8c021ff9823a82a7fa9f11446b7630073a6893a3c2b6a2f88b14889c9734a", func := "example.com/serialwise/serialwise/zzlaws_internal_check_b1.FnAbortedTransactionLeavesGraphAndRulesAlone", spec := "fnAbortedTransactionLeavesGraphAndRulesAlone", plainKeys := false, apart := false }
def FnAbortedTransactionLeavesGraphAndRulesAloneSaid : Prop := fnAbortedTransactionLeavesGraphAndRulesAloneRow.holds Try.pinned (OpenSpec.ofChange fnAbortedTransactionLeavesGraphAndRulesAloneSpec)

/-- ITS FALSE NEIGHBOUR: 'it returns false'. Refute it at one input. -/
def fnAbortedTransactionLeavesGraphAndRulesAloneWrong : ChangeSpec := { name := "fnAbortedTransactionLeavesGraphAndRulesAlone", fn := fun _ => fun
  | [d1, d2, d3, d4, d5] => { results := [.lit (.bool false)], args := [d1, d2, d3, d4, d5] }
  | _ => none }
def FnAbortedTransactionLeavesGraphAndRulesAloneWrongFalsely : Prop := fnAbortedTransactionLeavesGraphAndRulesAloneRow.holds Try.pinned (OpenSpec.ofChange fnAbortedTransactionLeavesGraphAndRulesAloneWrong)

/-- 'zzlaws_internal_check_b1.FnConflictSerializableHistoryIsViewAccepted': WHATEVER THE INPUT: true; the input reads as it did. -/
def fnConflictSerializableHistoryIsViewAcceptedSpec : ChangeSpec := { name := "fnConflictSerializableHistoryIsViewAccepted", fn := fun _ => fun
  | [d1, d2, d3, d4] => { results := [.lit (.bool true)], args := [d1, d2, d3, d4] }
  | _ => none }
def fnConflictSerializableHistoryIsViewAcceptedRow : OpenClaim := { program := "qxb6600752a", sum := "dac8c021ff9823a82a7fa9f11446b7630073a6893a3c2b6a2f88b14889c9734a", func := "example.com/serialwise/serialwise/zzlaws_internal_check_b1.FnConflictSerializableHistoryIsViewAccepted", spec := "fnConflictSerializableHistoryIsViewAccepted", plainKeys := false, apart := false }
def FnConflictSerializableHistoryIsViewAcceptedSaid : Prop := fnConflictSerializableHistoryIsViewAcceptedRow.holds Try.pinned (OpenSpec.ofChange fnConflictSerializableHistoryIsViewAcceptedSpec)

/-- ITS FALSE NEIGHBOUR: 'it returns false'. Refute it at one input. -/
def fnConflictSerializableHistoryIsViewAcceptedWrong : ChangeSpec := { name := "fnConflictSerializableHistoryIsViewAccepted", fn := fun _ => fun
  | [d1, d2, d3, d4] => { results := [.lit (.bool false)], args := [d1, d2, d3, d4] }
  | _ => none }
def FnConflictSerializableHistoryIsViewAcceptedWrongFalsely : Prop := fnConflictSerializableHistoryIsViewAcceptedRow.holds Try.pinned (OpenSpec.ofChange fnConflictSerializableHistoryIsViewAcceptedWrong)

end Rows
end Go.Proofs.Qxb6600752a
