/-
  No cell of these rows narrows 'for every input' (looked for: loops, veiled, ifaces, maps, wideKeys, modest, calm, conditions, laid).
  DERIVED. THE GIVEN ROWS OF THIS SEAT. 4 by the template 'for every input the law returns true; each argument reads behind the call as it read before'; 0 by the template 'total and deterministic' (their statements: Qxb6615962aTotals.lean).
  GIVEN WITH THE SEED: the statements are not yours to turn. If you find one false, say at which input.
  Laid BY PROGRAM, IN A SANDBOX (cutbox-rows.mjs): the forced cells as the released guide's own fill.sh prints them over the translation 2472e96f89268b91… (all of the seat's roots in one cut). By AI agents, Wed Nov 11 2026. No macro, syntax, notation, axiom, sorry.
-/
import Derived.Test.Qxb6615962aChecked
import GoSem.Claim
import GoSem.ClaimJoined
import GoSem.ClaimMapViews
import Derived.JoinedTies
import Derived.KernelRfl
namespace Go.Proofs.Qxb6615962a
/- THE CELL 'sum', in the pinned program and in every row, IS THE sha256 OF THE DUMP (.gsa) THAT Qxb6615962aProg.lean LOADS. Nothing in Lean hashes anything: it is a label: what it is worth is what the hold of that sum in a sandbox is worth. -/
noncomputable def Try.pinned : Pinned := { name := "qxb6615962a", sum := "2472e96f89268b91c7f283dcb5e37e1241dce63e26ae2d16577767b8b5b58adf", checked := Try.checked }
namespace Rows
def none {H : Type} : Left H := { results := [], args := [] }

/-- 'zzlaws_root_b1.FnBitOfValueOfRoundTrip': WHATEVER THE INPUT: true; the input reads as it did. -/
def fnBitOfValueOfRoundTripSpec : ChangeSpec := { name := "fnBitOfValueOfRoundTrip", fn := fun _ => fun
  | [d] => { results := [.lit (.bool true)], args := [d] }
  | _ => none }
def fnBitOfValueOfRoundTripRow : OpenClaim := { program := "qxb6615962a", sum := "2472e96f89268b91c7f283dcb5e37e1241dce63e26ae2d16577767b8b5b58adf", func := "example.com/interval/interval/zzlaws_root_b1.FnBitOfValueOfRoundTrip", spec := "fnBitOfValueOfRoundTrip", apart := false }
def FnBitOfValueOfRoundTripSaid : Prop := fnBitOfValueOfRoundTripRow.holds Try.pinned (OpenSpec.ofChange fnBitOfValueOfRoundTripSpec)

/-- ITS FALSE NEIGHBOUR: 'it returns false'. Refute it at one input. -/
def fnBitOfValueOfRoundTripWrong : ChangeSpec := { name := "fnBitOfValueOfRoundTrip", fn := fun _ => fun
  | [d] => { results := [.lit (.bool false)], args := [d] }
  | _ => none }
def FnBitOfValueOfRoundTripWrongFalsely : Prop := fnBitOfValueOfRoundTripRow.holds Try.pinned (OpenSpec.ofChange fnBitOfValueOfRoundTripWrong)

/-- 'zzlaws_root_b1.FnValueRangeHoldsExactlyItsValues': WHATEVER THE INPUT: true; the input reads as it did. -/
def fnValueRangeHoldsExactlyItsValuesSpec : ChangeSpec := { name := "fnValueRangeHoldsExactlyItsValues", fn := fun _ => fun
  | [d1, d2, d3] => { results := [.lit (.bool true)], args := [d1, d2, d3] }
  | _ => none }
def fnValueRangeHoldsExactlyItsValuesRow : OpenClaim := { program := "qxb6615962a", sum := "2472e96f89268b91c7f283dcb5e37e1241dce63e26ae2d16577767b8b5b58adf", func := "example.com/interval/interval/zzlaws_root_b1.FnValueRangeHoldsExactlyItsValues", spec := "fnValueRangeHoldsExactlyItsValues", apart := false }
def FnValueRangeHoldsExactlyItsValuesSaid : Prop := fnValueRangeHoldsExactlyItsValuesRow.holds Try.pinned (OpenSpec.ofChange fnValueRangeHoldsExactlyItsValuesSpec)

/-- ITS FALSE NEIGHBOUR: 'it returns false'. Refute it at one input. -/
def fnValueRangeHoldsExactlyItsValuesWrong : ChangeSpec := { name := "fnValueRangeHoldsExactlyItsValues", fn := fun _ => fun
  | [d1, d2, d3] => { results := [.lit (.bool false)], args := [d1, d2, d3] }
  | _ => none }
def FnValueRangeHoldsExactlyItsValuesWrongFalsely : Prop := fnValueRangeHoldsExactlyItsValuesRow.holds Try.pinned (OpenSpec.ofChange fnValueRangeHoldsExactlyItsValuesWrong)

/-- 'zzlaws_root_b1.FnClauseMinutesAddOneGroup': WHATEVER THE INPUT: true; the input reads as it did. -/
def fnClauseMinutesAddOneGroupSpec : ChangeSpec := { name := "fnClauseMinutesAddOneGroup", fn := fun _ => fun
  | [d1, d2, d3, d4, d5, d6, d7, d8, d9] => { results := [.lit (.bool true)], args := [d1, d2, d3, d4, d5, d6, d7, d8, d9] }
  | _ => none }
def fnClauseMinutesAddOneGroupRow : OpenClaim := { program := "qxb6615962a", sum := "2472e96f89268b91c7f283dcb5e37e1241dce63e26ae2d16577767b8b5b58adf", func := "example.com/interval/interval/zzlaws_root_b1.FnClauseMinutesAddOneGroup", spec := "fnClauseMinutesAddOneGroup", unfollowed := true, recurses := true, apart := false }
def FnClauseMinutesAddOneGroupSaid : Prop := fnClauseMinutesAddOneGroupRow.holds Try.pinned (OpenSpec.ofChange fnClauseMinutesAddOneGroupSpec)

/-- ITS FALSE NEIGHBOUR: 'it returns false'. Refute it at one input. -/
def fnClauseMinutesAddOneGroupWrong : ChangeSpec := { name := "fnClauseMinutesAddOneGroup", fn := fun _ => fun
  | [d1, d2, d3, d4, d5, d6, d7, d8, d9] => { results := [.lit (.bool false)], args := [d1, d2, d3, d4, d5, d6, d7, d8, d9] }
  | _ => none }
def FnClauseMinutesAddOneGroupWrongFalsely : Prop := fnClauseMinutesAddOneGroupRow.holds Try.pinned (OpenSpec.ofChange fnClauseMinutesAddOneGroupWrong)

/-- 'zzlaws_root_b1.FnClauseMinutesSplitGroupIntoChildren': WHATEVER THE INPUT: true; the input reads as it did. -/
def fnClauseMinutesSplitGroupIntoChildrenSpec : ChangeSpec := { name := "fnClauseMinutesSplitGroupIntoChildren", fn := fun _ => fun
  | [d1, d2, d3, d4, d5, d6, d7, d8] => { results := [.lit (.bool true)], args := [d1, d2, d3, d4, d5, d6, d7, d8] }
  | _ => none }
def fnClauseMinutesSplitGroupIntoChildrenRow : OpenClaim := { program := "qxb6615962a", sum := "2472e96f89268b91c7f283dcb5e37e1241dce63e26ae2d16577767b8b5b58adf", func := "example.com/interval/interval/zzlaws_root_b1.FnClauseMinutesSplitGroupIntoChildren", spec := "fnClauseMinutesSplitGroupIntoChildren", unfollowed := true, recurses := true, apart := false }
def FnClauseMinutesSplitGroupIntoChildrenSaid : Prop := fnClauseMinutesSplitGroupIntoChildrenRow.holds Try.pinned (OpenSpec.ofChange fnClauseMinutesSplitGroupIntoChildrenSpec)

/-- ITS FALSE NEIGHBOUR: 'it returns false'. Refute it at one input. -/
def fnClauseMinutesSplitGroupIntoChildrenWrong : ChangeSpec := { name := "fnClauseMinutesSplitGroupIntoChildren", fn := fun _ => fun
  | [d1, d2, d3, d4, d5, d6, d7, d8] => { results := [.lit (.bool false)], args := [d1, d2, d3, d4, d5, d6, d7, d8] }
  | _ => none }
def FnClauseMinutesSplitGroupIntoChildrenWrongFalsely : Prop := fnClauseMinutesSplitGroupIntoChildrenRow.holds Try.pinned (OpenSpec.ofChange fnClauseMinutesSplitGroupIntoChildrenWrong)

end Rows
end Go.Proofs.Qxb6615962a
