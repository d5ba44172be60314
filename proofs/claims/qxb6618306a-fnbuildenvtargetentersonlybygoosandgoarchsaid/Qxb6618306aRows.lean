/-
  No cell of these rows narrows 'for every input' (looked for: loops, veiled, ifaces, maps, wideKeys, modest, calm, conditions, laid).
  DERIVED. THE GIVEN ROWS OF THIS SEAT. 1 by the template 'for every input the law returns true; each argument reads behind the call as it read before'; 0 by the template 'total and deterministic' (their statements: Qxb6618306aTotals.lean).
  GIVEN WITH THE SEED: the statements are not yours to turn. If you find one false, say at which input.
  Laid BY PROGRAM, IN A SANDBOX (cutbox-rows.mjs): the forced cells as the released guide's own fill.sh prints them over the translation 8da616cb17ef0264… (all of the seat's roots in one cut). By AI agents, Wed Nov 11 2026. No macro, syntax, notation, axiom, sorry.
-/
import Derived.Test.Qxb6618306aChecked
import GoSem.Claim
import GoSem.ClaimJoined
import GoSem.ClaimMapViews
import Derived.JoinedTies
import Derived.KernelRfl
namespace Go.Proofs.Qxb6618306a
/- THE CELL 'sum', in the pinned program and in every row, IS THE sha256 OF THE DUMP (.gsa) THAT Qxb6618306aProg.lean LOADS. Nothing in Lean hashes anything: it is a label: what it is worth is what the hold of that sum in a sandbox is worth. -/
noncomputable def Try.pinned : Pinned := { name := "qxb6618306a", sum := "8da616cb17ef0264c2217cdbd02614a1e2a52c10a80b5facdbfe4d0fc86ea2ac", checked := Try.checked }
namespace Rows
def none {H : Type} : Left H := { results := [], args := [] }

/-- 'zzlaws_internal_release_b1.FnBuildEnvTargetEntersOnlyByGOOSAndGOARCH': WHATEVER THE INPUT: true; the input reads as it did. -/
def fnBuildEnvTargetEntersOnlyByGOOSAndGOARCHSpec : ChangeSpec := { name := "fnBuildEnvTargetEntersOnlyByGOOSAndGOARCH", fn := fun _ => fun
  | [d1, d2, d3, d4] => { results := [.lit (.bool true)], args := [d1, d2, d3, d4] }
  | _ => none }
def fnBuildEnvTargetEntersOnlyByGOOSAndGOARCHRow : OpenClaim := { program := "qxb6618306a", sum := "8da616cb17ef0264c2217cdbd02614a1e2a52c10a80b5facdbfe4d0fc86ea2ac", func := "example.com/countersign/countersign/zzlaws_internal_release_b1.FnBuildEnvTargetEntersOnlyByGOOSAndGOARCH", spec := "fnBuildEnvTargetEntersOnlyByGOOSAndGOARCH", apart := false }
def FnBuildEnvTargetEntersOnlyByGOOSAndGOARCHSaid : Prop := fnBuildEnvTargetEntersOnlyByGOOSAndGOARCHRow.holds Try.pinned (OpenSpec.ofChange fnBuildEnvTargetEntersOnlyByGOOSAndGOARCHSpec)

/-- ITS FALSE NEIGHBOUR: 'it returns false'. Refute it at one input. -/
def fnBuildEnvTargetEntersOnlyByGOOSAndGOARCHWrong : ChangeSpec := { name := "fnBuildEnvTargetEntersOnlyByGOOSAndGOARCH", fn := fun _ => fun
  | [d1, d2, d3, d4] => { results := [.lit (.bool false)], args := [d1, d2, d3, d4] }
  | _ => none }
def FnBuildEnvTargetEntersOnlyByGOOSAndGOARCHWrongFalsely : Prop := fnBuildEnvTargetEntersOnlyByGOOSAndGOARCHRow.holds Try.pinned (OpenSpec.ofChange fnBuildEnvTargetEntersOnlyByGOOSAndGOARCHWrong)

end Rows
end Go.Proofs.Qxb6618306a
