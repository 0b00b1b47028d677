/-
  No cell of these rows narrows 'for every input' (looked for: loops, veiled, ifaces, maps, wideKeys, modest, calm, conditions, laid).
  DERIVED. THE GIVEN ROWS OF THIS SEAT. 5 by the template 'for every input the law returns true; each argument reads behind the call as it read before'; 0 by the template 'total and deterministic' (their statements: Qxb6604439aTotals.lean).
  GIVEN WITH THE SEED: the statements are not yours to turn. If you find one false, say at which input.
  Laid BY PROGRAM, IN A SANDBOX (cutbox-rows.mjs): the forced cells as the released guide's own fill.sh prints them over the translation bf56010212458609… (all of the seat's roots in one cut). By AI agents, Wed Nov 11 2026. No macro, syntax, notation, axiom, sorry.
-/
import Derived.Test.Qxb6604439aChecked
import GoSem.Claim
import GoSem.ClaimJoined
import GoSem.ClaimMapViews
import Derived.JoinedTies
import Derived.KernelRfl
namespace Go.Proofs.Qxb6604439a
/- THE CELL 'sum', in the pinned program and in every row, IS THE sha256 OF THE DUMP (.gsa) THAT Qxb6604439aProg.lean LOADS. Nothing in Lean hashes anything: it is a label: what it is worth is what the hold of that sum in a sandbox is worth. -/
noncomputable def Try.pinned : Pinned := { name := "qxb6604439a", sum := "bf560102124586093d9194cadad0676c93295145b50ebf87c85400bfa8a66c52", checked := Try.checked }
namespace Rows
def none {H : Type} : Left H := { results := [], args := [] }

/-- 'zzlaws_policy_b1.FnRecordAddKeepsExactlyTheLastDay': WHATEVER THE INPUT: true; the input reads as it did. -/
def fnRecordAddKeepsExactlyTheLastDaySpec : ChangeSpec := { name := "fnRecordAddKeepsExactlyTheLastDay", fn := fun _ => fun
  | [d] => { results := [.lit (.bool true)], args := [d] }
  | _ => none }
def fnRecordAddKeepsExactlyTheLastDayRow : OpenClaim := { program := "qxb6604439a", sum := "bf560102124586093d9194cadad0676c93295145b50ebf87c85400bfa8a66c52", func := "example.com/tidecaster/tidecaster/zzlaws_policy_b1.FnRecordAddKeepsExactlyTheLastDay", spec := "fnRecordAddKeepsExactlyTheLastDay", apart := false }
def FnRecordAddKeepsExactlyTheLastDaySaid : Prop := fnRecordAddKeepsExactlyTheLastDayRow.holds Try.pinned (OpenSpec.ofChange fnRecordAddKeepsExactlyTheLastDaySpec)

/-- ITS FALSE NEIGHBOUR: 'it returns false'. Refute it at one input. -/
def fnRecordAddKeepsExactlyTheLastDayWrong : ChangeSpec := { name := "fnRecordAddKeepsExactlyTheLastDay", fn := fun _ => fun
  | [d] => { results := [.lit (.bool false)], args := [d] }
  | _ => none }
def FnRecordAddKeepsExactlyTheLastDayWrongFalsely : Prop := fnRecordAddKeepsExactlyTheLastDayRow.holds Try.pinned (OpenSpec.ofChange fnRecordAddKeepsExactlyTheLastDayWrong)

/-- 'zzlaws_policy_b1.FnRecordAddSumsAtEveryDecision': WHATEVER THE INPUT: true; the input reads as it did. -/
def fnRecordAddSumsAtEveryDecisionSpec : ChangeSpec := { name := "fnRecordAddSumsAtEveryDecision", fn := fun _ => fun
  | [d] => { results := [.lit (.bool true)], args := [d] }
  | _ => none }
def fnRecordAddSumsAtEveryDecisionRow : OpenClaim := { program := "qxb6604439a", sum := "bf560102124586093d9194cadad0676c93295145b50ebf87c85400bfa8a66c52", func := "example.com/tidecaster/tidecaster/zzlaws_policy_b1.FnRecordAddSumsAtEveryDecision", spec := "fnRecordAddSumsAtEveryDecision", apart := false }
def FnRecordAddSumsAtEveryDecisionSaid : Prop := fnRecordAddSumsAtEveryDecisionRow.holds Try.pinned (OpenSpec.ofChange fnRecordAddSumsAtEveryDecisionSpec)

/-- ITS FALSE NEIGHBOUR: 'it returns false'. Refute it at one input. -/
def fnRecordAddSumsAtEveryDecisionWrong : ChangeSpec := { name := "fnRecordAddSumsAtEveryDecision", fn := fun _ => fun
  | [d] => { results := [.lit (.bool false)], args := [d] }
  | _ => none }
def FnRecordAddSumsAtEveryDecisionWrongFalsely : Prop := fnRecordAddSumsAtEveryDecisionRow.holds Try.pinned (OpenSpec.ofChange fnRecordAddSumsAtEveryDecisionWrong)

/-- 'zzlaws_policy_b1.FnSetHoltWintersLeavesCopiesAlone': WHATEVER THE INPUT: true; the input reads as it did. -/
def fnSetHoltWintersLeavesCopiesAloneSpec : ChangeSpec := { name := "fnSetHoltWintersLeavesCopiesAlone", fn := fun _ => fun
  | [d1, d2, d3, d4, d5, d6, d7, d8, d9, d10] => { results := [.lit (.bool true)], args := [d1, d2, d3, d4, d5, d6, d7, d8, d9, d10] }
  | _ => none }
def fnSetHoltWintersLeavesCopiesAloneRow : OpenClaim := { program := "qxb6604439a", sum := "bf560102124586093d9194cadad0676c93295145b50ebf87c85400bfa8a66c52", func := "example.com/tidecaster/tidecaster/zzlaws_policy_b1.FnSetHoltWintersLeavesCopiesAlone", spec := "fnSetHoltWintersLeavesCopiesAlone", unfollowed := true, recurses := true, apart := false }
def FnSetHoltWintersLeavesCopiesAloneSaid : Prop := fnSetHoltWintersLeavesCopiesAloneRow.holds Try.pinned (OpenSpec.ofChange fnSetHoltWintersLeavesCopiesAloneSpec)

/-- ITS FALSE NEIGHBOUR: 'it returns false'. Refute it at one input. -/
def fnSetHoltWintersLeavesCopiesAloneWrong : ChangeSpec := { name := "fnSetHoltWintersLeavesCopiesAlone", fn := fun _ => fun
  | [d1, d2, d3, d4, d5, d6, d7, d8, d9, d10] => { results := [.lit (.bool false)], args := [d1, d2, d3, d4, d5, d6, d7, d8, d9, d10] }
  | _ => none }
def FnSetHoltWintersLeavesCopiesAloneWrongFalsely : Prop := fnSetHoltWintersLeavesCopiesAloneRow.holds Try.pinned (OpenSpec.ofChange fnSetHoltWintersLeavesCopiesAloneWrong)

/-- 'zzlaws_policy_b1.FnMetricRuleHoldsTheClosedBand': WHATEVER THE INPUT: true; the input reads as it did. -/
def fnMetricRuleHoldsTheClosedBandSpec : ChangeSpec := { name := "fnMetricRuleHoldsTheClosedBand", fn := fun _ => fun
  | [d1, d2, d3] => { results := [.lit (.bool true)], args := [d1, d2, d3] }
  | _ => none }
def fnMetricRuleHoldsTheClosedBandRow : OpenClaim := { program := "qxb6604439a", sum := "bf560102124586093d9194cadad0676c93295145b50ebf87c85400bfa8a66c52", func := "example.com/tidecaster/tidecaster/zzlaws_policy_b1.FnMetricRuleHoldsTheClosedBand", spec := "fnMetricRuleHoldsTheClosedBand", apart := false }
def FnMetricRuleHoldsTheClosedBandSaid : Prop := fnMetricRuleHoldsTheClosedBandRow.holds Try.pinned (OpenSpec.ofChange fnMetricRuleHoldsTheClosedBandSpec)

/-- ITS FALSE NEIGHBOUR: 'it returns false'. Refute it at one input. -/
def fnMetricRuleHoldsTheClosedBandWrong : ChangeSpec := { name := "fnMetricRuleHoldsTheClosedBand", fn := fun _ => fun
  | [d1, d2, d3] => { results := [.lit (.bool false)], args := [d1, d2, d3] }
  | _ => none }
def FnMetricRuleHoldsTheClosedBandWrongFalsely : Prop := fnMetricRuleHoldsTheClosedBandRow.holds Try.pinned (OpenSpec.ofChange fnMetricRuleHoldsTheClosedBandWrong)

/-- 'zzlaws_policy_b1.FnMetricRuleHoldsWiderTolerance': WHATEVER THE INPUT: true; the input reads as it did. -/
def fnMetricRuleHoldsWiderToleranceSpec : ChangeSpec := { name := "fnMetricRuleHoldsWiderTolerance", fn := fun _ => fun
  | [d1, d2, d3, d4, d5] => { results := [.lit (.bool true)], args := [d1, d2, d3, d4, d5] }
  | _ => none }
def fnMetricRuleHoldsWiderToleranceRow : OpenClaim := { program := "qxb6604439a", sum := "bf560102124586093d9194cadad0676c93295145b50ebf87c85400bfa8a66c52", func := "example.com/tidecaster/tidecaster/zzlaws_policy_b1.FnMetricRuleHoldsWiderTolerance", spec := "fnMetricRuleHoldsWiderTolerance", apart := false }
def FnMetricRuleHoldsWiderToleranceSaid : Prop := fnMetricRuleHoldsWiderToleranceRow.holds Try.pinned (OpenSpec.ofChange fnMetricRuleHoldsWiderToleranceSpec)

/-- ITS FALSE NEIGHBOUR: 'it returns false'. Refute it at one input. -/
def fnMetricRuleHoldsWiderToleranceWrong : ChangeSpec := { name := "fnMetricRuleHoldsWiderTolerance", fn := fun _ => fun
  | [d1, d2, d3, d4, d5] => { results := [.lit (.bool false)], args := [d1, d2, d3, d4, d5] }
  | _ => none }
def FnMetricRuleHoldsWiderToleranceWrongFalsely : Prop := fnMetricRuleHoldsWiderToleranceRow.holds Try.pinned (OpenSpec.ofChange fnMetricRuleHoldsWiderToleranceWrong)

end Rows
end Go.Proofs.Qxb6604439a
