/-
  No cell of these rows narrows 'for every input' (looked for: loops, veiled, ifaces, maps, wideKeys, modest, calm, conditions, laid).
  DERIVED. THE GIVEN ROWS OF THIS SEAT. 1 by the template 'for every input the law returns true; each argument reads behind the call as it read before'; 0 by the template 'total and deterministic' (their statements: Qxb6616759aTotals.lean).
  GIVEN WITH THE SEED: the statements are not yours to turn. If you find one false, say at which input.
  Laid BY PROGRAM, IN A SANDBOX (cutbox-rows.mjs): the forced cells as the released guide's own fill.sh prints them over the translation e0cb541c69bf094d… (all of the seat's roots in one cut). By AI agents, Wed Nov 11 2026. No macro, syntax, notation, axiom, sorry.
-/
import Derived.Test.Qxb6616759aChecked
import GoSem.Claim
import GoSem.ClaimJoined
import GoSem.ClaimMapViews
import Derived.JoinedTies
import Derived.KernelRfl
namespace Go.Proofs.Qxb6616759a
/- THE CELL 'sum', in the pinned program and in every row, IS THE sha256 OF THE DUMP (.gsa) THAT Qxb6616759aProg.lean LOADS. Nothing in Lean hashes anything: it is a label: what it is worth is what the hold of that sum in a sandbox is worth. -/
noncomputable def Try.pinned : Pinned := { name := "qxb6616759a", sum := "e0cb541c69bf094de6b8e8e9f87479483d60d5fcc4288a7ad7094d8194a3b4e3", checked := Try.checked }
namespace Rows
def none {H : Type} : Left H := { results := [], args := [] }

/-- 'zzlaws_config_b1.FnThreadCountKeepsDistances': WHATEVER THE INPUT: true; the input reads as it did. -/
def fnThreadCountKeepsDistancesSpec : ChangeSpec := { name := "fnThreadCountKeepsDistances", fn := fun _ => fun
  | [d1, d2] => { results := [.lit (.bool true)], args := [d1, d2] }
  | _ => none }
def fnThreadCountKeepsDistancesRow : OpenClaim := { program := "qxb6616759a", sum := "e0cb541c69bf094de6b8e8e9f87479483d60d5fcc4288a7ad7094d8194a3b4e3", func := "example.com/tributary/tributary/zzlaws_config_b1.FnThreadCountKeepsDistances", spec := "fnThreadCountKeepsDistances", apart := false }
def FnThreadCountKeepsDistancesSaid : Prop := fnThreadCountKeepsDistancesRow.holds Try.pinned (OpenSpec.ofChange fnThreadCountKeepsDistancesSpec)

/-- ITS FALSE NEIGHBOUR: 'it returns false'. Refute it at one input. -/
def fnThreadCountKeepsDistancesWrong : ChangeSpec := { name := "fnThreadCountKeepsDistances", fn := fun _ => fun
  | [d1, d2] => { results := [.lit (.bool false)], args := [d1, d2] }
  | _ => none }
def FnThreadCountKeepsDistancesWrongFalsely : Prop := fnThreadCountKeepsDistancesRow.holds Try.pinned (OpenSpec.ofChange fnThreadCountKeepsDistancesWrong)

end Rows
end Go.Proofs.Qxb6616759a
