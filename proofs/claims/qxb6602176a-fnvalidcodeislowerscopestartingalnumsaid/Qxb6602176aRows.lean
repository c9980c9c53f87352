/-
  No cell of these rows narrows 'for every input' (looked for: loops, veiled, ifaces, maps, wideKeys, modest, calm, conditions, laid).
  DERIVED. THE GIVEN ROWS OF THIS SEAT. 7 by the template 'for every input the law returns true; each argument reads behind the call as it read before'; 0 by the template 'total and deterministic' (their statements: Qxb6602176aTotals.lean).
  GIVEN WITH THE SEED: the statements are not yours to turn. If you find one false, say at which input.
  Laid BY PROGRAM, IN A SANDBOX (cutbox-rows.mjs): the forced cells as the released guide's own fill.sh prints them over the translation 3f5d7962775d1be9… (all of the seat's roots in one cut). By AI agents, Wed Nov 11 2026. No macro, syntax, notation, axiom, sorry.
-/
import Derived.Test.Qxb6602176aChecked
import GoSem.Claim
import GoSem.ClaimJoined
import GoSem.ClaimMapViews
import Derived.JoinedTies
import Derived.KernelRfl
namespace Go.Proofs.Qxb6602176a
/- THE CELL 'sum', in the pinned program and in every row, IS THE sha256 OF THE DUMP (.gsa) THAT Qxb6602176aProg.lean LOADS. Nothing in Lean hashes anything: it is a label: what it is worth is what the hold of that sum in a sandbox is worth. -/
noncomputable def Try.pinned : Pinned := { name := "qxb6602176a", sum := "3f5d7962775d1be90717d96435421c4ac929355dd007c7e8cb646f126ce1ed98", checked := Try.checked }
namespace Rows
def none {H : Type} : Left H := { results := [], args := [] }

/-- 'zzlaws_ledger_b1.FnValidCodeIsLowerScopeStartingAlnum': WHATEVER THE INPUT: true; the input reads as it did. -/
def fnValidCodeIsLowerScopeStartingAlnumSpec : ChangeSpec := { name := "fnValidCodeIsLowerScopeStartingAlnum", fn := fun _ => fun
  | [d] => { results := [.lit (.bool true)], args := [d] }
  | _ => none }
def fnValidCodeIsLowerScopeStartingAlnumRow : OpenClaim := { program := "qxb6602176a", sum := "3f5d7962775d1be90717d96435421c4ac929355dd007c7e8cb646f126ce1ed98", func := "example.com/lastro/lastro/zzlaws_ledger_b1.FnValidCodeIsLowerScopeStartingAlnum", spec := "fnValidCodeIsLowerScopeStartingAlnum", apart := false }
def FnValidCodeIsLowerScopeStartingAlnumSaid : Prop := fnValidCodeIsLowerScopeStartingAlnumRow.holds Try.pinned (OpenSpec.ofChange fnValidCodeIsLowerScopeStartingAlnumSpec)

/-- ITS FALSE NEIGHBOUR: 'it returns false'. Refute it at one input. -/
def fnValidCodeIsLowerScopeStartingAlnumWrong : ChangeSpec := { name := "fnValidCodeIsLowerScopeStartingAlnum", fn := fun _ => fun
  | [d] => { results := [.lit (.bool false)], args := [d] }
  | _ => none }
def FnValidCodeIsLowerScopeStartingAlnumWrongFalsely : Prop := fnValidCodeIsLowerScopeStartingAlnumRow.holds Try.pinned (OpenSpec.ofChange fnValidCodeIsLowerScopeStartingAlnumWrong)

/-- 'zzlaws_ledger_b1.FnValidCodeJoin': WHATEVER THE INPUT: true; the input reads as it did. -/
def fnValidCodeJoinSpec : ChangeSpec := { name := "fnValidCodeJoin", fn := fun _ => fun
  | [d1, d2] => { results := [.lit (.bool true)], args := [d1, d2] }
  | _ => none }
def fnValidCodeJoinRow : OpenClaim := { program := "qxb6602176a", sum := "3f5d7962775d1be90717d96435421c4ac929355dd007c7e8cb646f126ce1ed98", func := "example.com/lastro/lastro/zzlaws_ledger_b1.FnValidCodeJoin", spec := "fnValidCodeJoin", apart := false }
def FnValidCodeJoinSaid : Prop := fnValidCodeJoinRow.holds Try.pinned (OpenSpec.ofChange fnValidCodeJoinSpec)

/-- ITS FALSE NEIGHBOUR: 'it returns false'. Refute it at one input. -/
def fnValidCodeJoinWrong : ChangeSpec := { name := "fnValidCodeJoin", fn := fun _ => fun
  | [d1, d2] => { results := [.lit (.bool false)], args := [d1, d2] }
  | _ => none }
def FnValidCodeJoinWrongFalsely : Prop := fnValidCodeJoinRow.holds Try.pinned (OpenSpec.ofChange fnValidCodeJoinWrong)

/-- 'zzlaws_ledger_b1.FnValidScopeConcat': WHATEVER THE INPUT: true; the input reads as it did. -/
def fnValidScopeConcatSpec : ChangeSpec := { name := "fnValidScopeConcat", fn := fun _ => fun
  | [d1, d2] => { results := [.lit (.bool true)], args := [d1, d2] }
  | _ => none }
def fnValidScopeConcatRow : OpenClaim := { program := "qxb6602176a", sum := "3f5d7962775d1be90717d96435421c4ac929355dd007c7e8cb646f126ce1ed98", func := "example.com/lastro/lastro/zzlaws_ledger_b1.FnValidScopeConcat", spec := "fnValidScopeConcat", apart := false }
def FnValidScopeConcatSaid : Prop := fnValidScopeConcatRow.holds Try.pinned (OpenSpec.ofChange fnValidScopeConcatSpec)

/-- ITS FALSE NEIGHBOUR: 'it returns false'. Refute it at one input. -/
def fnValidScopeConcatWrong : ChangeSpec := { name := "fnValidScopeConcat", fn := fun _ => fun
  | [d1, d2] => { results := [.lit (.bool false)], args := [d1, d2] }
  | _ => none }
def FnValidScopeConcatWrongFalsely : Prop := fnValidScopeConcatRow.holds Try.pinned (OpenSpec.ofChange fnValidScopeConcatWrong)

/-- 'zzlaws_ledger_b1.FnValidScopeCaseBlind': WHATEVER THE INPUT: true; the input reads as it did. -/
def fnValidScopeCaseBlindSpec : ChangeSpec := { name := "fnValidScopeCaseBlind", fn := fun _ => fun
  | [d] => { results := [.lit (.bool true)], args := [d] }
  | _ => none }
def fnValidScopeCaseBlindRow : OpenClaim := { program := "qxb6602176a", sum := "3f5d7962775d1be90717d96435421c4ac929355dd007c7e8cb646f126ce1ed98", func := "example.com/lastro/lastro/zzlaws_ledger_b1.FnValidScopeCaseBlind", spec := "fnValidScopeCaseBlind", apart := false }
def FnValidScopeCaseBlindSaid : Prop := fnValidScopeCaseBlindRow.holds Try.pinned (OpenSpec.ofChange fnValidScopeCaseBlindSpec)

/-- ITS FALSE NEIGHBOUR: 'it returns false'. Refute it at one input. -/
def fnValidScopeCaseBlindWrong : ChangeSpec := { name := "fnValidScopeCaseBlind", fn := fun _ => fun
  | [d] => { results := [.lit (.bool false)], args := [d] }
  | _ => none }
def FnValidScopeCaseBlindWrongFalsely : Prop := fnValidScopeCaseBlindRow.holds Try.pinned (OpenSpec.ofChange fnValidScopeCaseBlindWrong)

/-- 'zzlaws_ledger_b1.FnValidUUIDMatchesGroupModel': WHATEVER THE INPUT: true; the input reads as it did. -/
def fnValidUUIDMatchesGroupModelSpec : ChangeSpec := { name := "fnValidUUIDMatchesGroupModel", fn := fun _ => fun
  | [d] => { results := [.lit (.bool true)], args := [d] }
  | _ => none }
def fnValidUUIDMatchesGroupModelRow : OpenClaim := { program := "qxb6602176a", sum := "3f5d7962775d1be90717d96435421c4ac929355dd007c7e8cb646f126ce1ed98", func := "example.com/lastro/lastro/zzlaws_ledger_b1.FnValidUUIDMatchesGroupModel", spec := "fnValidUUIDMatchesGroupModel", apart := false }
def FnValidUUIDMatchesGroupModelSaid : Prop := fnValidUUIDMatchesGroupModelRow.holds Try.pinned (OpenSpec.ofChange fnValidUUIDMatchesGroupModelSpec)

/-- ITS FALSE NEIGHBOUR: 'it returns false'. Refute it at one input. -/
def fnValidUUIDMatchesGroupModelWrong : ChangeSpec := { name := "fnValidUUIDMatchesGroupModel", fn := fun _ => fun
  | [d] => { results := [.lit (.bool false)], args := [d] }
  | _ => none }
def FnValidUUIDMatchesGroupModelWrongFalsely : Prop := fnValidUUIDMatchesGroupModelRow.holds Try.pinned (OpenSpec.ofChange fnValidUUIDMatchesGroupModelWrong)

/-- 'zzlaws_ledger_b1.FnValidUUIDCaseBlind': WHATEVER THE INPUT: true; the input reads as it did. -/
def fnValidUUIDCaseBlindSpec : ChangeSpec := { name := "fnValidUUIDCaseBlind", fn := fun _ => fun
  | [d] => { results := [.lit (.bool true)], args := [d] }
  | _ => none }
def fnValidUUIDCaseBlindRow : OpenClaim := { program := "qxb6602176a", sum := "3f5d7962775d1be90717d96435421c4ac929355dd007c7e8cb646f126ce1ed98", func := "example.com/lastro/lastro/zzlaws_ledger_b1.FnValidUUIDCaseBlind", spec := "fnValidUUIDCaseBlind", apart := false }
def FnValidUUIDCaseBlindSaid : Prop := fnValidUUIDCaseBlindRow.holds Try.pinned (OpenSpec.ofChange fnValidUUIDCaseBlindSpec)

/-- ITS FALSE NEIGHBOUR: 'it returns false'. Refute it at one input. -/
def fnValidUUIDCaseBlindWrong : ChangeSpec := { name := "fnValidUUIDCaseBlind", fn := fun _ => fun
  | [d] => { results := [.lit (.bool false)], args := [d] }
  | _ => none }
def FnValidUUIDCaseBlindWrongFalsely : Prop := fnValidUUIDCaseBlindRow.holds Try.pinned (OpenSpec.ofChange fnValidUUIDCaseBlindWrong)

/-- 'zzlaws_ledger_b1.FnValidUUIDAcceptsEveryEncoding': WHATEVER THE INPUT: true; the input reads as it did. -/
def fnValidUUIDAcceptsEveryEncodingSpec : ChangeSpec := { name := "fnValidUUIDAcceptsEveryEncoding", fn := fun _ => fun
  | [d1, d2, d3] => { results := [.lit (.bool true)], args := [d1, d2, d3] }
  | _ => none }
def fnValidUUIDAcceptsEveryEncodingRow : OpenClaim := { program := "qxb6602176a", sum := "3f5d7962775d1be90717d96435421c4ac929355dd007c7e8cb646f126ce1ed98", func := "example.com/lastro/lastro/zzlaws_ledger_b1.FnValidUUIDAcceptsEveryEncoding", spec := "fnValidUUIDAcceptsEveryEncoding", apart := false }
def FnValidUUIDAcceptsEveryEncodingSaid : Prop := fnValidUUIDAcceptsEveryEncodingRow.holds Try.pinned (OpenSpec.ofChange fnValidUUIDAcceptsEveryEncodingSpec)

/-- ITS FALSE NEIGHBOUR: 'it returns false'. Refute it at one input. -/
def fnValidUUIDAcceptsEveryEncodingWrong : ChangeSpec := { name := "fnValidUUIDAcceptsEveryEncoding", fn := fun _ => fun
  | [d1, d2, d3] => { results := [.lit (.bool false)], args := [d1, d2, d3] }
  | _ => none }
def FnValidUUIDAcceptsEveryEncodingWrongFalsely : Prop := fnValidUUIDAcceptsEveryEncodingRow.holds Try.pinned (OpenSpec.ofChange fnValidUUIDAcceptsEveryEncodingWrong)

end Rows
end Go.Proofs.Qxb6602176a
