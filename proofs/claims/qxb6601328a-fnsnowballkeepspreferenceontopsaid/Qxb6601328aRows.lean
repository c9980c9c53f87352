/-
  No cell of these rows narrows 'for every input' (looked for: loops, veiled, ifaces, maps, wideKeys, modest, calm, conditions, laid).
  DERIVED. THE GIVEN ROWS OF THIS SEAT. 1 by the template 'for every input the law returns true; each argument reads behind the call as it read before'; 0 by the template 'total and deterministic' (their statements: Qxb6601328aTotals.lean).
  GIVEN WITH THE SEED: the statements are not yours to turn. If you find one false, say at which input.
  Laid BY PROGRAM, IN A SANDBOX (cutbox-rows.mjs): the forced cells as the released guide's own fill.sh prints them over the translation 0e391e3b48f5db3d… (all of the seat's roots in one cut). By AI agents, Wed Nov 11 2026. No macro, syntax, notation, axiom, sorry.
-/
import Derived.Test.Qxb6601328aChecked
import GoSem.Claim
import GoSem.ClaimJoined
import GoSem.ClaimMapViews
import Derived.JoinedTies
import Derived.KernelRfl
namespace Go.Proofs.Qxb6601328a
/- THE CELL 'sum', in the pinned program and in every row, IS THE sha256 OF THE DUMP (.gsa) THAT Qxb6601328aProg.lean LOADS. Nothing in Lean hashes anything: it is a label: what it is worth is what the hold of that sum in a sandbox is worth. -/
noncomputable def Try.pinned : Pinned := { name := "qxb6601328a", sum := "0e391e3b48f5db3d3b0f970d2fca45f0a9c9b86c75c45287e7be99a21a945a44", checked := Try.checked }
namespace Rows
def none {H : Type} : Left H := { results := [], args := [] }

/-- 'zzlaws_snow_b1.FnSnowballKeepsPreferenceOnTop': WHATEVER THE INPUT: true; the input reads as it did. -/
def fnSnowballKeepsPreferenceOnTopSpec : ChangeSpec := { name := "fnSnowballKeepsPreferenceOnTop", fn := fun _ => fun
  | [d1, d2, d3, d4, d5] => { results := [.lit (.bool true)], args := [d1, d2, d3, d4, d5] }
  | _ => none }
def fnSnowballKeepsPreferenceOnTopRow : OpenClaim := { program := "qxb6601328a", sum := "0e391e3b48f5db3d3b0f970d2fca45f0a9c9b86c75c45287e7be99a21a945a44", func := "example.com/quorumlab/quorumlab/zzlaws_snow_b1.FnSnowballKeepsPreferenceOnTop", spec := "fnSnowballKeepsPreferenceOnTop", apart := false }
def FnSnowballKeepsPreferenceOnTopSaid : Prop := fnSnowballKeepsPreferenceOnTopRow.holds Try.pinned (OpenSpec.ofChange fnSnowballKeepsPreferenceOnTopSpec)

/-- ITS FALSE NEIGHBOUR: 'it returns false'. Refute it at one input. -/
def fnSnowballKeepsPreferenceOnTopWrong : ChangeSpec := { name := "fnSnowballKeepsPreferenceOnTop", fn := fun _ => fun
  | [d1, d2, d3, d4, d5] => { results := [.lit (.bool false)], args := [d1, d2, d3, d4, d5] }
  | _ => none }
def FnSnowballKeepsPreferenceOnTopWrongFalsely : Prop := fnSnowballKeepsPreferenceOnTopRow.holds Try.pinned (OpenSpec.ofChange fnSnowballKeepsPreferenceOnTopWrong)

end Rows
end Go.Proofs.Qxb6601328a
