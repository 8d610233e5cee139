/-
  No cell of these rows narrows 'for every input' (looked for: loops, veiled, ifaces, maps, wideKeys, modest, calm, conditions, laid).
  DERIVED. THE GIVEN ROWS OF THIS SEAT. 8 by the template 'for every input the law returns true; each argument reads behind the call as it read before'; 0 by the template 'total and deterministic' (their statements: Qxb6601294aTotals.lean).
  GIVEN WITH THE SEED: the statements are not yours to turn. If you find one false, say at which input.
  Laid BY PROGRAM, IN A SANDBOX (cutbox-rows.mjs): the forced cells as the released guide's own fill.sh prints them over the translation 76761940a1531d43… (all of the seat's roots in one cut). By AI agents, Wed Nov 11 2026. No macro, syntax, notation, axiom, sorry.
-/
import Derived.Test.Qxb6601294aChecked
import GoSem.Claim
import GoSem.ClaimJoined
import GoSem.ClaimMapViews
import Derived.JoinedTies
import Derived.KernelRfl
namespace Go.Proofs.Qxb6601294a
/- THE CELL 'sum', in the pinned program and in every row, IS THE sha256 OF THE DUMP (.gsa) THAT Qxb6601294aProg.lean LOADS. Nothing in Lean hashes anything: it is a label: what it is worth is what the hold of that sum in a sandbox is worth. -/
noncomputable def Try.pinned : Pinned := { name := "qxb6601294a", sum := "76761940a1531d437aa558b179f32499f47bc3f1fa04e82621850a7f0e473403", checked := Try.checked }
namespace Rows
def none {H : Type} : Left H := { results := [], args := [] }

/-- 'zzlaws_root_b1.FnBitWindowAddAgreesWithBoolWindow': WHATEVER THE INPUT: true; the input reads as it did. -/
def fnBitWindowAddAgreesWithBoolWindowSpec : ChangeSpec := { name := "fnBitWindowAddAgreesWithBoolWindow", fn := fun _ => fun
  | [d1, d2, d3, d4, d5] => { results := [.lit (.bool true)], args := [d1, d2, d3, d4, d5] }
  | _ => none }
def fnBitWindowAddAgreesWithBoolWindowRow : OpenClaim := { program := "qxb6601294a", sum := "76761940a1531d437aa558b179f32499f47bc3f1fa04e82621850a7f0e473403", func := "example.com/heartgauge/heartgauge/zzlaws_root_b1.FnBitWindowAddAgreesWithBoolWindow", spec := "fnBitWindowAddAgreesWithBoolWindow", apart := false }
def FnBitWindowAddAgreesWithBoolWindowSaid : Prop := fnBitWindowAddAgreesWithBoolWindowRow.holds Try.pinned (OpenSpec.ofChange fnBitWindowAddAgreesWithBoolWindowSpec)

/-- ITS FALSE NEIGHBOUR: 'it returns false'. Refute it at one input. -/
def fnBitWindowAddAgreesWithBoolWindowWrong : ChangeSpec := { name := "fnBitWindowAddAgreesWithBoolWindow", fn := fun _ => fun
  | [d1, d2, d3, d4, d5] => { results := [.lit (.bool false)], args := [d1, d2, d3, d4, d5] }
  | _ => none }
def FnBitWindowAddAgreesWithBoolWindowWrongFalsely : Prop := fnBitWindowAddAgreesWithBoolWindowRow.holds Try.pinned (OpenSpec.ofChange fnBitWindowAddAgreesWithBoolWindowWrong)

/-- 'zzlaws_root_b1.FnBitWindowGivesBackTheItemAddedCapacityBefore': WHATEVER THE INPUT: true; the input reads as it did. -/
def fnBitWindowGivesBackTheItemAddedCapacityBeforeSpec : ChangeSpec := { name := "fnBitWindowGivesBackTheItemAddedCapacityBefore", fn := fun _ => fun
  | [d1, d2] => { results := [.lit (.bool true)], args := [d1, d2] }
  | _ => none }
def fnBitWindowGivesBackTheItemAddedCapacityBeforeRow : OpenClaim := { program := "qxb6601294a", sum := "76761940a1531d437aa558b179f32499f47bc3f1fa04e82621850a7f0e473403", func := "example.com/heartgauge/heartgauge/zzlaws_root_b1.FnBitWindowGivesBackTheItemAddedCapacityBefore", spec := "fnBitWindowGivesBackTheItemAddedCapacityBefore", apart := false }
def FnBitWindowGivesBackTheItemAddedCapacityBeforeSaid : Prop := fnBitWindowGivesBackTheItemAddedCapacityBeforeRow.holds Try.pinned (OpenSpec.ofChange fnBitWindowGivesBackTheItemAddedCapacityBeforeSpec)

/-- ITS FALSE NEIGHBOUR: 'it returns false'. Refute it at one input. -/
def fnBitWindowGivesBackTheItemAddedCapacityBeforeWrong : ChangeSpec := { name := "fnBitWindowGivesBackTheItemAddedCapacityBefore", fn := fun _ => fun
  | [d1, d2] => { results := [.lit (.bool false)], args := [d1, d2] }
  | _ => none }
def FnBitWindowGivesBackTheItemAddedCapacityBeforeWrongFalsely : Prop := fnBitWindowGivesBackTheItemAddedCapacityBeforeRow.holds Try.pinned (OpenSpec.ofChange fnBitWindowGivesBackTheItemAddedCapacityBeforeWrong)

/-- 'zzlaws_root_b1.FnBitWindowHoldsTheLatestItemsInOrder': WHATEVER THE INPUT: true; the input reads as it did. -/
def fnBitWindowHoldsTheLatestItemsInOrderSpec : ChangeSpec := { name := "fnBitWindowHoldsTheLatestItemsInOrder", fn := fun _ => fun
  | [d1, d2] => { results := [.lit (.bool true)], args := [d1, d2] }
  | _ => none }
def fnBitWindowHoldsTheLatestItemsInOrderRow : OpenClaim := { program := "qxb6601294a", sum := "76761940a1531d437aa558b179f32499f47bc3f1fa04e82621850a7f0e473403", func := "example.com/heartgauge/heartgauge/zzlaws_root_b1.FnBitWindowHoldsTheLatestItemsInOrder", spec := "fnBitWindowHoldsTheLatestItemsInOrder", apart := false }
def FnBitWindowHoldsTheLatestItemsInOrderSaid : Prop := fnBitWindowHoldsTheLatestItemsInOrderRow.holds Try.pinned (OpenSpec.ofChange fnBitWindowHoldsTheLatestItemsInOrderSpec)

/-- ITS FALSE NEIGHBOUR: 'it returns false'. Refute it at one input. -/
def fnBitWindowHoldsTheLatestItemsInOrderWrong : ChangeSpec := { name := "fnBitWindowHoldsTheLatestItemsInOrder", fn := fun _ => fun
  | [d1, d2] => { results := [.lit (.bool false)], args := [d1, d2] }
  | _ => none }
def FnBitWindowHoldsTheLatestItemsInOrderWrongFalsely : Prop := fnBitWindowHoldsTheLatestItemsInOrderRow.holds Try.pinned (OpenSpec.ofChange fnBitWindowHoldsTheLatestItemsInOrderWrong)

/-- 'zzlaws_root_b1.FnLongestRecentIsTheMaxOfItsSpan': WHATEVER THE INPUT: true; the input reads as it did. -/
def fnLongestRecentIsTheMaxOfItsSpanSpec : ChangeSpec := { name := "fnLongestRecentIsTheMaxOfItsSpan", fn := fun _ => fun
  | [d1, d2, d3] => { results := [.lit (.bool true)], args := [d1, d2, d3] }
  | _ => none }
def fnLongestRecentIsTheMaxOfItsSpanRow : OpenClaim := { program := "qxb6601294a", sum := "76761940a1531d437aa558b179f32499f47bc3f1fa04e82621850a7f0e473403", func := "example.com/heartgauge/heartgauge/zzlaws_root_b1.FnLongestRecentIsTheMaxOfItsSpan", spec := "fnLongestRecentIsTheMaxOfItsSpan", apart := false }
def FnLongestRecentIsTheMaxOfItsSpanSaid : Prop := fnLongestRecentIsTheMaxOfItsSpanRow.holds Try.pinned (OpenSpec.ofChange fnLongestRecentIsTheMaxOfItsSpanSpec)

/-- ITS FALSE NEIGHBOUR: 'it returns false'. Refute it at one input. -/
def fnLongestRecentIsTheMaxOfItsSpanWrong : ChangeSpec := { name := "fnLongestRecentIsTheMaxOfItsSpan", fn := fun _ => fun
  | [d1, d2, d3] => { results := [.lit (.bool false)], args := [d1, d2, d3] }
  | _ => none }
def FnLongestRecentIsTheMaxOfItsSpanWrongFalsely : Prop := fnLongestRecentIsTheMaxOfItsSpanRow.holds Try.pinned (OpenSpec.ofChange fnLongestRecentIsTheMaxOfItsSpanWrong)

/-- 'zzlaws_root_b1.FnLongestRecentKeepsBlockMaxima': WHATEVER THE INPUT: true; the input reads as it did. -/
def fnLongestRecentKeepsBlockMaximaSpec : ChangeSpec := { name := "fnLongestRecentKeepsBlockMaxima", fn := fun _ => fun
  | [d1, d2, d3] => { results := [.lit (.bool true)], args := [d1, d2, d3] }
  | _ => none }
def fnLongestRecentKeepsBlockMaximaRow : OpenClaim := { program := "qxb6601294a", sum := "76761940a1531d437aa558b179f32499f47bc3f1fa04e82621850a7f0e473403", func := "example.com/heartgauge/heartgauge/zzlaws_root_b1.FnLongestRecentKeepsBlockMaxima", spec := "fnLongestRecentKeepsBlockMaxima", apart := false }
def FnLongestRecentKeepsBlockMaximaSaid : Prop := fnLongestRecentKeepsBlockMaximaRow.holds Try.pinned (OpenSpec.ofChange fnLongestRecentKeepsBlockMaximaSpec)

/-- ITS FALSE NEIGHBOUR: 'it returns false'. Refute it at one input. -/
def fnLongestRecentKeepsBlockMaximaWrong : ChangeSpec := { name := "fnLongestRecentKeepsBlockMaxima", fn := fun _ => fun
  | [d1, d2, d3] => { results := [.lit (.bool false)], args := [d1, d2, d3] }
  | _ => none }
def FnLongestRecentKeepsBlockMaximaWrongFalsely : Prop := fnLongestRecentKeepsBlockMaximaRow.holds Try.pinned (OpenSpec.ofChange fnLongestRecentKeepsBlockMaximaWrong)

/-- 'zzlaws_root_b1.FnIncarnationTakeAgreesWithHistories': WHATEVER THE INPUT: true; the input reads as it did. -/
def fnIncarnationTakeAgreesWithHistoriesSpec : ChangeSpec := { name := "fnIncarnationTakeAgreesWithHistories", fn := fun _ => fun
  | [d] => { results := [.lit (.bool true)], args := [d] }
  | _ => none }
def fnIncarnationTakeAgreesWithHistoriesRow : OpenClaim := { program := "qxb6601294a", sum := "76761940a1531d437aa558b179f32499f47bc3f1fa04e82621850a7f0e473403", func := "example.com/heartgauge/heartgauge/zzlaws_root_b1.FnIncarnationTakeAgreesWithHistories", spec := "fnIncarnationTakeAgreesWithHistories", apart := false }
def FnIncarnationTakeAgreesWithHistoriesSaid : Prop := fnIncarnationTakeAgreesWithHistoriesRow.holds Try.pinned (OpenSpec.ofChange fnIncarnationTakeAgreesWithHistoriesSpec)

/-- ITS FALSE NEIGHBOUR: 'it returns false'. Refute it at one input. -/
def fnIncarnationTakeAgreesWithHistoriesWrong : ChangeSpec := { name := "fnIncarnationTakeAgreesWithHistories", fn := fun _ => fun
  | [d] => { results := [.lit (.bool false)], args := [d] }
  | _ => none }
def FnIncarnationTakeAgreesWithHistoriesWrongFalsely : Prop := fnIncarnationTakeAgreesWithHistoriesRow.holds Try.pinned (OpenSpec.ofChange fnIncarnationTakeAgreesWithHistoriesWrong)

/-- 'zzlaws_root_b1.FnIncarnationOutlastRunTakesOver': WHATEVER THE INPUT: true; the input reads as it did. -/
def fnIncarnationOutlastRunTakesOverSpec : ChangeSpec := { name := "fnIncarnationOutlastRunTakesOver", fn := fun _ => fun
  | [d1, d2, d3, d4, d5] => { results := [.lit (.bool true)], args := [d1, d2, d3, d4, d5] }
  | _ => none }
def fnIncarnationOutlastRunTakesOverRow : OpenClaim := { program := "qxb6601294a", sum := "76761940a1531d437aa558b179f32499f47bc3f1fa04e82621850a7f0e473403", func := "example.com/heartgauge/heartgauge/zzlaws_root_b1.FnIncarnationOutlastRunTakesOver", spec := "fnIncarnationOutlastRunTakesOver", apart := false }
def FnIncarnationOutlastRunTakesOverSaid : Prop := fnIncarnationOutlastRunTakesOverRow.holds Try.pinned (OpenSpec.ofChange fnIncarnationOutlastRunTakesOverSpec)

/-- ITS FALSE NEIGHBOUR: 'it returns false'. Refute it at one input. -/
def fnIncarnationOutlastRunTakesOverWrong : ChangeSpec := { name := "fnIncarnationOutlastRunTakesOver", fn := fun _ => fun
  | [d1, d2, d3, d4, d5] => { results := [.lit (.bool false)], args := [d1, d2, d3, d4, d5] }
  | _ => none }
def FnIncarnationOutlastRunTakesOverWrongFalsely : Prop := fnIncarnationOutlastRunTakesOverRow.holds Try.pinned (OpenSpec.ofChange fnIncarnationOutlastRunTakesOverWrong)

/-- 'zzlaws_root_b1.FnIncarnationScriptKeepsItsInvariant': WHATEVER THE INPUT: true; the input reads as it did. -/
def fnIncarnationScriptKeepsItsInvariantSpec : ChangeSpec := { name := "fnIncarnationScriptKeepsItsInvariant", fn := fun _ => fun
  | [d] => { results := [.lit (.bool true)], args := [d] }
  | _ => none }
def fnIncarnationScriptKeepsItsInvariantRow : OpenClaim := { program := "qxb6601294a", sum := "76761940a1531d437aa558b179f32499f47bc3f1fa04e82621850a7f0e473403", func := "example.com/heartgauge/heartgauge/zzlaws_root_b1.FnIncarnationScriptKeepsItsInvariant", spec := "fnIncarnationScriptKeepsItsInvariant", apart := false }
def FnIncarnationScriptKeepsItsInvariantSaid : Prop := fnIncarnationScriptKeepsItsInvariantRow.holds Try.pinned (OpenSpec.ofChange fnIncarnationScriptKeepsItsInvariantSpec)

/-- ITS FALSE NEIGHBOUR: 'it returns false'. Refute it at one input. -/
def fnIncarnationScriptKeepsItsInvariantWrong : ChangeSpec := { name := "fnIncarnationScriptKeepsItsInvariant", fn := fun _ => fun
  | [d] => { results := [.lit (.bool false)], args := [d] }
  | _ => none }
def FnIncarnationScriptKeepsItsInvariantWrongFalsely : Prop := fnIncarnationScriptKeepsItsInvariantRow.holds Try.pinned (OpenSpec.ofChange fnIncarnationScriptKeepsItsInvariantWrong)

end Rows
end Go.Proofs.Qxb6601294a
