/-
  No cell of these rows narrows 'for every input' (looked for: loops, veiled, ifaces, maps, wideKeys, modest, calm, conditions, laid).
  DERIVED. THE GIVEN ROWS OF THIS SEAT. 5 by the template 'for every input the law returns true; each argument reads behind the call as it read before'; 0 by the template 'total and deterministic' (their statements: Qxb6601324aTotals.lean).
  GIVEN WITH THE SEED: the statements are not yours to turn. If you find one false, say at which input.
  Laid BY PROGRAM, IN A SANDBOX (cutbox-rows.mjs): the forced cells as the released guide's own fill.sh prints them over the translation 2f3a645456a42b67… (all of the seat's roots in one cut). By AI agents, Wed Nov 11 2026. No macro, syntax, notation, axiom, sorry.
-/
import Derived.Test.Qxb6601324aChecked
import GoSem.Claim
import GoSem.ClaimJoined
import GoSem.ClaimMapViews
import Derived.JoinedTies
import Derived.KernelRfl
namespace Go.Proofs.Qxb6601324a
/- THE CELL 'sum', in the pinned program and in every row, IS THE sha256 OF THE DUMP (.gsa) THAT Qxb6601324aProg.lean LOADS. Nothing in Lean hashes anything: it is a label: what it is worth is what the hold of that sum in a sandbox is worth. -/
noncomputable def Try.pinned : Pinned := { name := "qxb6601324a", sum := "2f3a645456a42b67ca63abbf7c9635241997cde4b1c9505108b86ebf213fde86", checked := Try.checked }
namespace Rows
def none {H : Type} : Left H := { results := [], args := [] }

/-- 'zzlaws_root_b1.FnConditionHoldsMatchesTreeModel': WHATEVER THE INPUT: true; the input reads as it did. -/
def fnConditionHoldsMatchesTreeModelSpec : ChangeSpec := { name := "fnConditionHoldsMatchesTreeModel", fn := fun _ => fun
  | [d1, d2] => { results := [.lit (.bool true)], args := [d1, d2] }
  | _ => none }
def fnConditionHoldsMatchesTreeModelRow : OpenClaim := { program := "qxb6601324a", sum := "2f3a645456a42b67ca63abbf7c9635241997cde4b1c9505108b86ebf213fde86", func := "example.com/overmesh/overmesh/zzlaws_root_b1.FnConditionHoldsMatchesTreeModel", spec := "fnConditionHoldsMatchesTreeModel", recurses := true, apart := false }
def FnConditionHoldsMatchesTreeModelSaid : Prop := fnConditionHoldsMatchesTreeModelRow.holds Try.pinned (OpenSpec.ofChange fnConditionHoldsMatchesTreeModelSpec)

/-- ITS FALSE NEIGHBOUR: 'it returns false'. Refute it at one input. -/
def fnConditionHoldsMatchesTreeModelWrong : ChangeSpec := { name := "fnConditionHoldsMatchesTreeModel", fn := fun _ => fun
  | [d1, d2] => { results := [.lit (.bool false)], args := [d1, d2] }
  | _ => none }
def FnConditionHoldsMatchesTreeModelWrongFalsely : Prop := fnConditionHoldsMatchesTreeModelRow.holds Try.pinned (OpenSpec.ofChange fnConditionHoldsMatchesTreeModelWrong)

/-- 'zzlaws_root_b1.FnConditionHoldsComposes': WHATEVER THE INPUT: true; the input reads as it did. -/
def fnConditionHoldsComposesSpec : ChangeSpec := { name := "fnConditionHoldsComposes", fn := fun _ => fun
  | [d1, d2, d3] => { results := [.lit (.bool true)], args := [d1, d2, d3] }
  | _ => none }
def fnConditionHoldsComposesRow : OpenClaim := { program := "qxb6601324a", sum := "2f3a645456a42b67ca63abbf7c9635241997cde4b1c9505108b86ebf213fde86", func := "example.com/overmesh/overmesh/zzlaws_root_b1.FnConditionHoldsComposes", spec := "fnConditionHoldsComposes", apart := false }
def FnConditionHoldsComposesSaid : Prop := fnConditionHoldsComposesRow.holds Try.pinned (OpenSpec.ofChange fnConditionHoldsComposesSpec)

/-- ITS FALSE NEIGHBOUR: 'it returns false'. Refute it at one input. -/
def fnConditionHoldsComposesWrong : ChangeSpec := { name := "fnConditionHoldsComposes", fn := fun _ => fun
  | [d1, d2, d3] => { results := [.lit (.bool false)], args := [d1, d2, d3] }
  | _ => none }
def FnConditionHoldsComposesWrongFalsely : Prop := fnConditionHoldsComposesRow.holds Try.pinned (OpenSpec.ofChange fnConditionHoldsComposesWrong)

/-- 'zzlaws_root_b1.FnTallySameIsEquivalence': WHATEVER THE INPUT: true; the input reads as it did. -/
def fnTallySameIsEquivalenceSpec : ChangeSpec := { name := "fnTallySameIsEquivalence", fn := fun _ => fun
  | [d1, d2, d3] => { results := [.lit (.bool true)], args := [d1, d2, d3] }
  | _ => none }
def fnTallySameIsEquivalenceRow : OpenClaim := { program := "qxb6601324a", sum := "2f3a645456a42b67ca63abbf7c9635241997cde4b1c9505108b86ebf213fde86", func := "example.com/overmesh/overmesh/zzlaws_root_b1.FnTallySameIsEquivalence", spec := "fnTallySameIsEquivalence", apart := false }
def FnTallySameIsEquivalenceSaid : Prop := fnTallySameIsEquivalenceRow.holds Try.pinned (OpenSpec.ofChange fnTallySameIsEquivalenceSpec)

/-- ITS FALSE NEIGHBOUR: 'it returns false'. Refute it at one input. -/
def fnTallySameIsEquivalenceWrong : ChangeSpec := { name := "fnTallySameIsEquivalence", fn := fun _ => fun
  | [d1, d2, d3] => { results := [.lit (.bool false)], args := [d1, d2, d3] }
  | _ => none }
def FnTallySameIsEquivalenceWrongFalsely : Prop := fnTallySameIsEquivalenceRow.holds Try.pinned (OpenSpec.ofChange fnTallySameIsEquivalenceWrong)

/-- 'zzlaws_root_b1.FnTallyCountsAsManyTransitive': WHATEVER THE INPUT: true; the input reads as it did. -/
def fnTallyCountsAsManyTransitiveSpec : ChangeSpec := { name := "fnTallyCountsAsManyTransitive", fn := fun _ => fun
  | [d1, d2, d3] => { results := [.lit (.bool true)], args := [d1, d2, d3] }
  | _ => none }
def fnTallyCountsAsManyTransitiveRow : OpenClaim := { program := "qxb6601324a", sum := "2f3a645456a42b67ca63abbf7c9635241997cde4b1c9505108b86ebf213fde86", func := "example.com/overmesh/overmesh/zzlaws_root_b1.FnTallyCountsAsManyTransitive", spec := "fnTallyCountsAsManyTransitive", apart := false }
def FnTallyCountsAsManyTransitiveSaid : Prop := fnTallyCountsAsManyTransitiveRow.holds Try.pinned (OpenSpec.ofChange fnTallyCountsAsManyTransitiveSpec)

/-- ITS FALSE NEIGHBOUR: 'it returns false'. Refute it at one input. -/
def fnTallyCountsAsManyTransitiveWrong : ChangeSpec := { name := "fnTallyCountsAsManyTransitive", fn := fun _ => fun
  | [d1, d2, d3] => { results := [.lit (.bool false)], args := [d1, d2, d3] }
  | _ => none }
def FnTallyCountsAsManyTransitiveWrongFalsely : Prop := fnTallyCountsAsManyTransitiveRow.holds Try.pinned (OpenSpec.ofChange fnTallyCountsAsManyTransitiveWrong)

/-- 'zzlaws_root_b1.FnTallyCountsAsManyReflexive': WHATEVER THE INPUT: true; the input reads as it did. -/
def fnTallyCountsAsManyReflexiveSpec : ChangeSpec := { name := "fnTallyCountsAsManyReflexive", fn := fun _ => fun
  | [d] => { results := [.lit (.bool true)], args := [d] }
  | _ => none }
def fnTallyCountsAsManyReflexiveRow : OpenClaim := { program := "qxb6601324a", sum := "2f3a645456a42b67ca63abbf7c9635241997cde4b1c9505108b86ebf213fde86", func := "example.com/overmesh/overmesh/zzlaws_root_b1.FnTallyCountsAsManyReflexive", spec := "fnTallyCountsAsManyReflexive", apart := false }
def FnTallyCountsAsManyReflexiveSaid : Prop := fnTallyCountsAsManyReflexiveRow.holds Try.pinned (OpenSpec.ofChange fnTallyCountsAsManyReflexiveSpec)

/-- ITS FALSE NEIGHBOUR: 'it returns false'. Refute it at one input. -/
def fnTallyCountsAsManyReflexiveWrong : ChangeSpec := { name := "fnTallyCountsAsManyReflexive", fn := fun _ => fun
  | [d] => { results := [.lit (.bool false)], args := [d] }
  | _ => none }
def FnTallyCountsAsManyReflexiveWrongFalsely : Prop := fnTallyCountsAsManyReflexiveRow.holds Try.pinned (OpenSpec.ofChange fnTallyCountsAsManyReflexiveWrong)

end Rows
end Go.Proofs.Qxb6601324a
