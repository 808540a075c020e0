/-
  No cell of these rows narrows 'for every input' (looked for: loops, veiled, ifaces, maps, wideKeys, modest, calm, conditions, laid).
  DERIVED. THE GIVEN ROWS OF THIS SEAT. 6 by the template 'for every input the law returns true; each argument reads behind the call as it read before'; 0 by the template 'total and deterministic' (their statements: Qxb6601700aTotals.lean).
  GIVEN WITH THE SEED: the statements are not yours to turn. If you find one false, say at which input.
  Laid BY PROGRAM, IN A SANDBOX (cutbox-rows.mjs): the forced cells as the released guide's own fill.sh prints them over the translation 5ef2c0efdee6eb18… (all of the seat's roots in one cut). By AI agents, Wed Nov 11 2026. No macro, syntax, notation, axiom, sorry.
-/
import Derived.Test.Qxb6601700aChecked
import GoSem.Claim
import GoSem.ClaimJoined
import GoSem.ClaimMapViews
import Derived.JoinedTies
import Derived.KernelRfl
namespace Go.Proofs.Qxb6601700a
/- THE CELL 'sum', in the pinned program and in every row, IS THE sha256 OF THE DUMP (.gsa) THAT Qxb6601700aProg.lean LOADS. Nothing in Lean hashes anything: it is a label: what it is worth is what the hold of that sum in a sandbox is worth. -/
noncomputable def Try.pinned : Pinned := { name := "qxb6601700a", sum := "5ef2c0efdee6eb1828de801490942d5c5f0f9c3c69dd6a0dbd358c5e08c23315", checked := Try.checked }
namespace Rows
def none {H : Type} : Left H := { results := [], args := [] }

/-- 'zzlaws_internal_harness_b1.FnAcknowledgementsOfMatchesFirstAckModel': WHATEVER THE INPUT: true; the input reads as it did. -/
def fnAcknowledgementsOfMatchesFirstAckModelSpec : ChangeSpec := { name := "fnAcknowledgementsOfMatchesFirstAckModel", fn := fun _ => fun
  | [d1, d2, d3, d4] => { results := [.lit (.bool true)], args := [d1, d2, d3, d4] }
  | _ => none }
def fnAcknowledgementsOfMatchesFirstAckModelRow : OpenClaim := { program := "qxb6601700a", sum := "5ef2c0efdee6eb1828de801490942d5c5f0f9c3c69dd6a0dbd358c5e08c23315", func := "example.com/sprintrelay/sprintrelay/zzlaws_internal_harness_b1.FnAcknowledgementsOfMatchesFirstAckModel", spec := "fnAcknowledgementsOfMatchesFirstAckModel", apart := false }
def FnAcknowledgementsOfMatchesFirstAckModelSaid : Prop := fnAcknowledgementsOfMatchesFirstAckModelRow.holds Try.pinned (OpenSpec.ofChange fnAcknowledgementsOfMatchesFirstAckModelSpec)

/-- ITS FALSE NEIGHBOUR: 'it returns false'. Refute it at one input. -/
def fnAcknowledgementsOfMatchesFirstAckModelWrong : ChangeSpec := { name := "fnAcknowledgementsOfMatchesFirstAckModel", fn := fun _ => fun
  | [d1, d2, d3, d4] => { results := [.lit (.bool false)], args := [d1, d2, d3, d4] }
  | _ => none }
def FnAcknowledgementsOfMatchesFirstAckModelWrongFalsely : Prop := fnAcknowledgementsOfMatchesFirstAckModelRow.holds Try.pinned (OpenSpec.ofChange fnAcknowledgementsOfMatchesFirstAckModelWrong)

/-- 'zzlaws_internal_harness_b1.FnAcknowledgementsOfSplitsAtAnyPoint': WHATEVER THE INPUT: true; the input reads as it did. -/
def fnAcknowledgementsOfSplitsAtAnyPointSpec : ChangeSpec := { name := "fnAcknowledgementsOfSplitsAtAnyPoint", fn := fun _ => fun
  | [d1, d2, d3, d4, d5] => { results := [.lit (.bool true)], args := [d1, d2, d3, d4, d5] }
  | _ => none }
def fnAcknowledgementsOfSplitsAtAnyPointRow : OpenClaim := { program := "qxb6601700a", sum := "5ef2c0efdee6eb1828de801490942d5c5f0f9c3c69dd6a0dbd358c5e08c23315", func := "example.com/sprintrelay/sprintrelay/zzlaws_internal_harness_b1.FnAcknowledgementsOfSplitsAtAnyPoint", spec := "fnAcknowledgementsOfSplitsAtAnyPoint", apart := false }
def FnAcknowledgementsOfSplitsAtAnyPointSaid : Prop := fnAcknowledgementsOfSplitsAtAnyPointRow.holds Try.pinned (OpenSpec.ofChange fnAcknowledgementsOfSplitsAtAnyPointSpec)

/-- ITS FALSE NEIGHBOUR: 'it returns false'. Refute it at one input. -/
def fnAcknowledgementsOfSplitsAtAnyPointWrong : ChangeSpec := { name := "fnAcknowledgementsOfSplitsAtAnyPoint", fn := fun _ => fun
  | [d1, d2, d3, d4, d5] => { results := [.lit (.bool false)], args := [d1, d2, d3, d4, d5] }
  | _ => none }
def FnAcknowledgementsOfSplitsAtAnyPointWrongFalsely : Prop := fnAcknowledgementsOfSplitsAtAnyPointRow.holds Try.pinned (OpenSpec.ofChange fnAcknowledgementsOfSplitsAtAnyPointWrong)

/-- 'zzlaws_internal_harness_b1.FnOwedCommentsCountsTheRecordOwed': WHATEVER THE INPUT: true; the input reads as it did. -/
def fnOwedCommentsCountsTheRecordOwedSpec : ChangeSpec := { name := "fnOwedCommentsCountsTheRecordOwed", fn := fun _ => fun
  | [d1, d2, d3] => { results := [.lit (.bool true)], args := [d1, d2, d3] }
  | _ => none }
def fnOwedCommentsCountsTheRecordOwedRow : OpenClaim := { program := "qxb6601700a", sum := "5ef2c0efdee6eb1828de801490942d5c5f0f9c3c69dd6a0dbd358c5e08c23315", func := "example.com/sprintrelay/sprintrelay/zzlaws_internal_harness_b1.FnOwedCommentsCountsTheRecordOwed", spec := "fnOwedCommentsCountsTheRecordOwed", apart := false }
def FnOwedCommentsCountsTheRecordOwedSaid : Prop := fnOwedCommentsCountsTheRecordOwedRow.holds Try.pinned (OpenSpec.ofChange fnOwedCommentsCountsTheRecordOwedSpec)

/-- ITS FALSE NEIGHBOUR: 'it returns false'. Refute it at one input. -/
def fnOwedCommentsCountsTheRecordOwedWrong : ChangeSpec := { name := "fnOwedCommentsCountsTheRecordOwed", fn := fun _ => fun
  | [d1, d2, d3] => { results := [.lit (.bool false)], args := [d1, d2, d3] }
  | _ => none }
def FnOwedCommentsCountsTheRecordOwedWrongFalsely : Prop := fnOwedCommentsCountsTheRecordOwedRow.holds Try.pinned (OpenSpec.ofChange fnOwedCommentsCountsTheRecordOwedWrong)

/-- 'zzlaws_internal_harness_b1.FnOwedCommentsGrowsByOneAStep': WHATEVER THE INPUT: true; the input reads as it did. -/
def fnOwedCommentsGrowsByOneAStepSpec : ChangeSpec := { name := "fnOwedCommentsGrowsByOneAStep", fn := fun _ => fun
  | [d1, d2, d3] => { results := [.lit (.bool true)], args := [d1, d2, d3] }
  | _ => none }
def fnOwedCommentsGrowsByOneAStepRow : OpenClaim := { program := "qxb6601700a", sum := "5ef2c0efdee6eb1828de801490942d5c5f0f9c3c69dd6a0dbd358c5e08c23315", func := "example.com/sprintrelay/sprintrelay/zzlaws_internal_harness_b1.FnOwedCommentsGrowsByOneAStep", spec := "fnOwedCommentsGrowsByOneAStep", apart := false }
def FnOwedCommentsGrowsByOneAStepSaid : Prop := fnOwedCommentsGrowsByOneAStepRow.holds Try.pinned (OpenSpec.ofChange fnOwedCommentsGrowsByOneAStepSpec)

/-- ITS FALSE NEIGHBOUR: 'it returns false'. Refute it at one input. -/
def fnOwedCommentsGrowsByOneAStepWrong : ChangeSpec := { name := "fnOwedCommentsGrowsByOneAStep", fn := fun _ => fun
  | [d1, d2, d3] => { results := [.lit (.bool false)], args := [d1, d2, d3] }
  | _ => none }
def FnOwedCommentsGrowsByOneAStepWrongFalsely : Prop := fnOwedCommentsGrowsByOneAStepRow.holds Try.pinned (OpenSpec.ofChange fnOwedCommentsGrowsByOneAStepWrong)

/-- 'zzlaws_internal_harness_b1.FnIssueOfMatchesCommentPathShape': WHATEVER THE INPUT: true; the input reads as it did. -/
def fnIssueOfMatchesCommentPathShapeSpec : ChangeSpec := { name := "fnIssueOfMatchesCommentPathShape", fn := fun _ => fun
  | [d] => { results := [.lit (.bool true)], args := [d] }
  | _ => none }
def fnIssueOfMatchesCommentPathShapeRow : OpenClaim := { program := "qxb6601700a", sum := "5ef2c0efdee6eb1828de801490942d5c5f0f9c3c69dd6a0dbd358c5e08c23315", func := "example.com/sprintrelay/sprintrelay/zzlaws_internal_harness_b1.FnIssueOfMatchesCommentPathShape", spec := "fnIssueOfMatchesCommentPathShape", apart := false }
def FnIssueOfMatchesCommentPathShapeSaid : Prop := fnIssueOfMatchesCommentPathShapeRow.holds Try.pinned (OpenSpec.ofChange fnIssueOfMatchesCommentPathShapeSpec)

/-- ITS FALSE NEIGHBOUR: 'it returns false'. Refute it at one input. -/
def fnIssueOfMatchesCommentPathShapeWrong : ChangeSpec := { name := "fnIssueOfMatchesCommentPathShape", fn := fun _ => fun
  | [d] => { results := [.lit (.bool false)], args := [d] }
  | _ => none }
def FnIssueOfMatchesCommentPathShapeWrongFalsely : Prop := fnIssueOfMatchesCommentPathShapeRow.holds Try.pinned (OpenSpec.ofChange fnIssueOfMatchesCommentPathShapeWrong)

/-- 'zzlaws_internal_harness_b1.FnIssueOfInvertsCommentPath': WHATEVER THE INPUT: true; the input reads as it did. -/
def fnIssueOfInvertsCommentPathSpec : ChangeSpec := { name := "fnIssueOfInvertsCommentPath", fn := fun _ => fun
  | [d] => { results := [.lit (.bool true)], args := [d] }
  | _ => none }
def fnIssueOfInvertsCommentPathRow : OpenClaim := { program := "qxb6601700a", sum := "5ef2c0efdee6eb1828de801490942d5c5f0f9c3c69dd6a0dbd358c5e08c23315", func := "example.com/sprintrelay/sprintrelay/zzlaws_internal_harness_b1.FnIssueOfInvertsCommentPath", spec := "fnIssueOfInvertsCommentPath", apart := false }
def FnIssueOfInvertsCommentPathSaid : Prop := fnIssueOfInvertsCommentPathRow.holds Try.pinned (OpenSpec.ofChange fnIssueOfInvertsCommentPathSpec)

/-- ITS FALSE NEIGHBOUR: 'it returns false'. Refute it at one input. -/
def fnIssueOfInvertsCommentPathWrong : ChangeSpec := { name := "fnIssueOfInvertsCommentPath", fn := fun _ => fun
  | [d] => { results := [.lit (.bool false)], args := [d] }
  | _ => none }
def FnIssueOfInvertsCommentPathWrongFalsely : Prop := fnIssueOfInvertsCommentPathRow.holds Try.pinned (OpenSpec.ofChange fnIssueOfInvertsCommentPathWrong)

end Rows
end Go.Proofs.Qxb6601700a
