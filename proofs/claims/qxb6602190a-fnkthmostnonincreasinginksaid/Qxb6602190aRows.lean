/-
  No cell of these rows narrows 'for every input' (looked for: loops, veiled, ifaces, maps, wideKeys, modest, calm, conditions, laid).
  DERIVED. THE GIVEN ROWS OF THIS SEAT. 3 by the template 'for every input the law returns true; each argument reads behind the call as it read before'; 0 by the template 'total and deterministic' (their statements: Qxb6602190aTotals.lean).
  GIVEN WITH THE SEED: the statements are not yours to turn. If you find one false, say at which input.
  Laid BY PROGRAM, IN A SANDBOX (cutbox-rows.mjs): the forced cells as the released guide's own fill.sh prints them over the translation da249709ab0cccab… (all of the seat's roots in one cut). By AI agents, Wed Nov 11 2026. No macro, syntax, notation, axiom, sorry.
-/
import Derived.Test.Qxb6602190aChecked
import GoSem.Claim
import GoSem.ClaimJoined
import GoSem.ClaimMapViews
import Derived.JoinedTies
import Derived.KernelRfl
namespace Go.Proofs.Qxb6602190a
/- THE CELL 'sum', in the pinned program and in every row, IS THE sha256 OF THE DUMP (.gsa) THAT Qxb6602190aProg.lean LOADS. Nothing in Lean hashes anything: it is a label: what it is worth is what the hold of that sum in a sandbox is worth. -/
noncomputable def Try.pinned : Pinned := { name := "qxb6602190a", sum := "da249709ab0cccabec4caa3c9cbef8fb62068cb72677db89de6acd1c21005598", checked := Try.checked }
namespace Rows
def none {H : Type} : Left H := { results := [], args := [] }

/-- 'zzlaws_pkg_moneymarket_b1.FnKthMostIsKthLargest': WHATEVER THE INPUT: true; the input reads as it did. -/
def fnKthMostIsKthLargestSpec : ChangeSpec := { name := "fnKthMostIsKthLargest", fn := fun _ => fun
  | [d1, d2] => { results := [.lit (.bool true)], args := [d1, d2] }
  | _ => none }
def fnKthMostIsKthLargestRow : OpenClaim := { program := "qxb6602190a", sum := "da249709ab0cccabec4caa3c9cbef8fb62068cb72677db89de6acd1c21005598", func := "example.com/tuoguan/tuoguan/zzlaws_pkg_moneymarket_b1.FnKthMostIsKthLargest", spec := "fnKthMostIsKthLargest", inPlace := ["internal/abi.NoEscape", "internal/bytealg.MakeNoZero"], apart := false }
def FnKthMostIsKthLargestSaid : Prop := fnKthMostIsKthLargestRow.holds Try.pinned (OpenSpec.ofChange fnKthMostIsKthLargestSpec)

/-- ITS FALSE NEIGHBOUR: 'it returns false'. Refute it at one input. -/
def fnKthMostIsKthLargestWrong : ChangeSpec := { name := "fnKthMostIsKthLargest", fn := fun _ => fun
  | [d1, d2] => { results := [.lit (.bool false)], args := [d1, d2] }
  | _ => none }
def FnKthMostIsKthLargestWrongFalsely : Prop := fnKthMostIsKthLargestRow.holds Try.pinned (OpenSpec.ofChange fnKthMostIsKthLargestWrong)

/-- 'zzlaws_pkg_moneymarket_b1.FnKthMostNonIncreasingInK': WHATEVER THE INPUT: true; the input reads as it did. -/
def fnKthMostNonIncreasingInKSpec : ChangeSpec := { name := "fnKthMostNonIncreasingInK", fn := fun _ => fun
  | [d1, d2] => { results := [.lit (.bool true)], args := [d1, d2] }
  | _ => none }
def fnKthMostNonIncreasingInKRow : OpenClaim := { program := "qxb6602190a", sum := "da249709ab0cccabec4caa3c9cbef8fb62068cb72677db89de6acd1c21005598", func := "example.com/tuoguan/tuoguan/zzlaws_pkg_moneymarket_b1.FnKthMostNonIncreasingInK", spec := "fnKthMostNonIncreasingInK", inPlace := ["internal/abi.NoEscape", "internal/bytealg.MakeNoZero"], apart := false }
def FnKthMostNonIncreasingInKSaid : Prop := fnKthMostNonIncreasingInKRow.holds Try.pinned (OpenSpec.ofChange fnKthMostNonIncreasingInKSpec)

/-- ITS FALSE NEIGHBOUR: 'it returns false'. Refute it at one input. -/
def fnKthMostNonIncreasingInKWrong : ChangeSpec := { name := "fnKthMostNonIncreasingInK", fn := fun _ => fun
  | [d1, d2] => { results := [.lit (.bool false)], args := [d1, d2] }
  | _ => none }
def FnKthMostNonIncreasingInKWrongFalsely : Prop := fnKthMostNonIncreasingInKRow.holds Try.pinned (OpenSpec.ofChange fnKthMostNonIncreasingInKWrong)

/-- 'zzlaws_pkg_moneymarket_b1.FnRegisterAddKeepsEveryHolder': WHATEVER THE INPUT: true; the input reads as it did. -/
def fnRegisterAddKeepsEveryHolderSpec : ChangeSpec := { name := "fnRegisterAddKeepsEveryHolder", fn := fun _ => fun
  | [d] => { results := [.lit (.bool true)], args := [d] }
  | _ => none }
def fnRegisterAddKeepsEveryHolderRow : OpenClaim := { program := "qxb6602190a", sum := "da249709ab0cccabec4caa3c9cbef8fb62068cb72677db89de6acd1c21005598", func := "example.com/tuoguan/tuoguan/zzlaws_pkg_moneymarket_b1.FnRegisterAddKeepsEveryHolder", spec := "fnRegisterAddKeepsEveryHolder", inPlace := ["internal/abi.NoEscape", "internal/bytealg.MakeNoZero"], apart := false }
def FnRegisterAddKeepsEveryHolderSaid : Prop := fnRegisterAddKeepsEveryHolderRow.holds Try.pinned (OpenSpec.ofChange fnRegisterAddKeepsEveryHolderSpec)

/-- ITS FALSE NEIGHBOUR: 'it returns false'. Refute it at one input. -/
def fnRegisterAddKeepsEveryHolderWrong : ChangeSpec := { name := "fnRegisterAddKeepsEveryHolder", fn := fun _ => fun
  | [d] => { results := [.lit (.bool false)], args := [d] }
  | _ => none }
def FnRegisterAddKeepsEveryHolderWrongFalsely : Prop := fnRegisterAddKeepsEveryHolderRow.holds Try.pinned (OpenSpec.ofChange fnRegisterAddKeepsEveryHolderWrong)

end Rows
end Go.Proofs.Qxb6602190a
