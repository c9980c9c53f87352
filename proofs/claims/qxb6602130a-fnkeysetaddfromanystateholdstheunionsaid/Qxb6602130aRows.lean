/-
  No cell of these rows narrows 'for every input' (looked for: loops, veiled, ifaces, maps, wideKeys, modest, calm, conditions, laid).
  DERIVED. THE GIVEN ROWS OF THIS SEAT. 4 by the template 'for every input the law returns true; each argument reads behind the call as it read before'; 0 by the template 'total and deterministic' (their statements: Qxb6602130aTotals.lean).
  GIVEN WITH THE SEED: the statements are not yours to turn. If you find one false, say at which input.
  Laid BY PROGRAM, IN A SANDBOX (cutbox-rows.mjs): the forced cells as the released guide's own fill.sh prints them over the translation 5bcf4a94a6ecb91e… (all of the seat's roots in one cut). By AI agents, Wed Nov 11 2026. No macro, syntax, notation, axiom, sorry.
-/
import Derived.Test.Qxb6602130aChecked
import GoSem.Claim
import GoSem.ClaimJoined
import GoSem.ClaimMapViews
import Derived.JoinedTies
import Derived.KernelRfl
namespace Go.Proofs.Qxb6602130a
/- THE CELL 'sum', in the pinned program and in every row, IS THE sha256 OF THE DUMP (.gsa) THAT Qxb6602130aProg.lean LOADS. Nothing in Lean hashes anything: it is a label: what it is worth is what the hold of that sum in a sandbox is worth. -/
noncomputable def Try.pinned : Pinned := { name := "qxb6602130a", sum := "5bcf4a94a6ecb91e5d76c766b9dca37be19cd267b273594453ae2880f98284b8", checked := Try.checked }
namespace Rows
def none {H : Type} : Left H := { results := [], args := [] }

/-- 'zzlaws_internal_yamldoc_b1.FnKeySetAddAnswersWhetherSeenBefore': WHATEVER THE INPUT: true; the input reads as it did. -/
def fnKeySetAddAnswersWhetherSeenBeforeSpec : ChangeSpec := { name := "fnKeySetAddAnswersWhetherSeenBefore", fn := fun _ => fun
  | [d] => { results := [.lit (.bool true)], args := [d] }
  | _ => none }
def fnKeySetAddAnswersWhetherSeenBeforeRow : OpenClaim := { program := "qxb6602130a", sum := "5bcf4a94a6ecb91e5d76c766b9dca37be19cd267b273594453ae2880f98284b8", func := "example.com/loadshed/loadshed/zzlaws_internal_yamldoc_b1.FnKeySetAddAnswersWhetherSeenBefore", spec := "fnKeySetAddAnswersWhetherSeenBefore", apart := false }
def FnKeySetAddAnswersWhetherSeenBeforeSaid : Prop := fnKeySetAddAnswersWhetherSeenBeforeRow.holds Try.pinned (OpenSpec.ofChange fnKeySetAddAnswersWhetherSeenBeforeSpec)

/-- ITS FALSE NEIGHBOUR: 'it returns false'. Refute it at one input. -/
def fnKeySetAddAnswersWhetherSeenBeforeWrong : ChangeSpec := { name := "fnKeySetAddAnswersWhetherSeenBefore", fn := fun _ => fun
  | [d] => { results := [.lit (.bool false)], args := [d] }
  | _ => none }
def FnKeySetAddAnswersWhetherSeenBeforeWrongFalsely : Prop := fnKeySetAddAnswersWhetherSeenBeforeRow.holds Try.pinned (OpenSpec.ofChange fnKeySetAddAnswersWhetherSeenBeforeWrong)

/-- 'zzlaws_internal_yamldoc_b1.FnKeySetAddFromAnyStateHoldsTheUnion': WHATEVER THE INPUT: true; the input reads as it did. -/
def fnKeySetAddFromAnyStateHoldsTheUnionSpec : ChangeSpec := { name := "fnKeySetAddFromAnyStateHoldsTheUnion", fn := fun _ => fun
  | [d1, d2, d3, d4, d5, d6] => { results := [.lit (.bool true)], args := [d1, d2, d3, d4, d5, d6] }
  | _ => none }
def fnKeySetAddFromAnyStateHoldsTheUnionRow : OpenClaim := { program := "qxb6602130a", sum := "5bcf4a94a6ecb91e5d76c766b9dca37be19cd267b273594453ae2880f98284b8", func := "example.com/loadshed/loadshed/zzlaws_internal_yamldoc_b1.FnKeySetAddFromAnyStateHoldsTheUnion", spec := "fnKeySetAddFromAnyStateHoldsTheUnion", apart := false }
def FnKeySetAddFromAnyStateHoldsTheUnionSaid : Prop := fnKeySetAddFromAnyStateHoldsTheUnionRow.holds Try.pinned (OpenSpec.ofChange fnKeySetAddFromAnyStateHoldsTheUnionSpec)

/-- ITS FALSE NEIGHBOUR: 'it returns false'. Refute it at one input. -/
def fnKeySetAddFromAnyStateHoldsTheUnionWrong : ChangeSpec := { name := "fnKeySetAddFromAnyStateHoldsTheUnion", fn := fun _ => fun
  | [d1, d2, d3, d4, d5, d6] => { results := [.lit (.bool false)], args := [d1, d2, d3, d4, d5, d6] }
  | _ => none }
def FnKeySetAddFromAnyStateHoldsTheUnionWrongFalsely : Prop := fnKeySetAddFromAnyStateHoldsTheUnionRow.holds Try.pinned (OpenSpec.ofChange fnKeySetAddFromAnyStateHoldsTheUnionWrong)

/-- 'zzlaws_internal_yamldoc_b1.FnPushMergedStacksMergeValuesFirstWrittenLast': WHATEVER THE INPUT: true; the input reads as it did. -/
def fnPushMergedStacksMergeValuesFirstWrittenLastSpec : ChangeSpec := { name := "fnPushMergedStacksMergeValuesFirstWrittenLast", fn := fun _ => fun
  | [d1, d2] => { results := [.lit (.bool true)], args := [d1, d2] }
  | _ => none }
def fnPushMergedStacksMergeValuesFirstWrittenLastRow : OpenClaim := { program := "qxb6602130a", sum := "5bcf4a94a6ecb91e5d76c766b9dca37be19cd267b273594453ae2880f98284b8", func := "example.com/loadshed/loadshed/zzlaws_internal_yamldoc_b1.FnPushMergedStacksMergeValuesFirstWrittenLast", spec := "fnPushMergedStacksMergeValuesFirstWrittenLast", apart := false }
def FnPushMergedStacksMergeValuesFirstWrittenLastSaid : Prop := fnPushMergedStacksMergeValuesFirstWrittenLastRow.holds Try.pinned (OpenSpec.ofChange fnPushMergedStacksMergeValuesFirstWrittenLastSpec)

/-- ITS FALSE NEIGHBOUR: 'it returns false'. Refute it at one input. -/
def fnPushMergedStacksMergeValuesFirstWrittenLastWrong : ChangeSpec := { name := "fnPushMergedStacksMergeValuesFirstWrittenLast", fn := fun _ => fun
  | [d1, d2] => { results := [.lit (.bool false)], args := [d1, d2] }
  | _ => none }
def FnPushMergedStacksMergeValuesFirstWrittenLastWrongFalsely : Prop := fnPushMergedStacksMergeValuesFirstWrittenLastRow.holds Try.pinned (OpenSpec.ofChange fnPushMergedStacksMergeValuesFirstWrittenLastWrong)

/-- 'zzlaws_internal_yamldoc_b1.FnPushMergedKeepsNoListEmpty': WHATEVER THE INPUT: true; the input reads as it did. -/
def fnPushMergedKeepsNoListEmptySpec : ChangeSpec := { name := "fnPushMergedKeepsNoListEmpty", fn := fun _ => fun
  | [d1, d2] => { results := [.lit (.bool true)], args := [d1, d2] }
  | _ => none }
def fnPushMergedKeepsNoListEmptyRow : OpenClaim := { program := "qxb6602130a", sum := "5bcf4a94a6ecb91e5d76c766b9dca37be19cd267b273594453ae2880f98284b8", func := "example.com/loadshed/loadshed/zzlaws_internal_yamldoc_b1.FnPushMergedKeepsNoListEmpty", spec := "fnPushMergedKeepsNoListEmpty", apart := false }
def FnPushMergedKeepsNoListEmptySaid : Prop := fnPushMergedKeepsNoListEmptyRow.holds Try.pinned (OpenSpec.ofChange fnPushMergedKeepsNoListEmptySpec)

/-- ITS FALSE NEIGHBOUR: 'it returns false'. Refute it at one input. -/
def fnPushMergedKeepsNoListEmptyWrong : ChangeSpec := { name := "fnPushMergedKeepsNoListEmpty", fn := fun _ => fun
  | [d1, d2] => { results := [.lit (.bool false)], args := [d1, d2] }
  | _ => none }
def FnPushMergedKeepsNoListEmptyWrongFalsely : Prop := fnPushMergedKeepsNoListEmptyRow.holds Try.pinned (OpenSpec.ofChange fnPushMergedKeepsNoListEmptyWrong)

end Rows
end Go.Proofs.Qxb6602130a
