/-
  NARROWER THAN 'FOR EVERY INPUT', by the rows' own cells (each row's printed sentence says how): FnWindowsFreshListShortestFirst: laid.
  DERIVED. THE GIVEN ROWS OF THIS SEAT. 1 by the template 'for every input the law returns true; each argument reads behind the call as it read before'; 0 by the template 'total and deterministic' (their statements: Qxb6615167aDoorTotals.lean).
  GIVEN WITH THE SEED: the statements are not yours to turn. If you find one false, say at which input.
  Laid BY PROGRAM, IN A SANDBOX (cutbox-rows.mjs): the forced cells as the released guide's own fill.sh prints them over the translation 279f3ef8af0a8658… (all of the seat's roots in one cut). By AI agents, Wed Nov 11 2026. No macro, syntax, notation, axiom, sorry.
-/
import Derived.Test.Qxb6615167aDoorChecked
import GoSem.Claim
import GoSem.ClaimJoined
import GoSem.ClaimMapViews
import Derived.JoinedTies
import Derived.KernelRfl
namespace Go.Proofs.Qxb6615167aDoor
/- THE CELL 'sum', in the pinned program and in every row, IS THE sha256 OF THE DUMP (.gsa) THAT Qxb6615167aDoorProg.lean LOADS. Nothing in Lean hashes anything: it is a label: what it is worth is what the hold of that sum in a sandbox is worth. -/
noncomputable def Tryd.pinned : Pinned := { name := "qxb6615167adoor", sum := "279f3ef8af0a865839ab310fef4be2eefb462a314e0049f0cf5ca07cbef95f58", checked := Tryd.checked }
namespace Rows
def none {H : Type} : Left H := { results := [], args := [] }

/- WHAT THE LISTED PACKAGE-LEVEL VARIABLES READ AS WHEN THE CALL BEGINS. Each datum BY PROGRAM (the guide's laid-datum.mjs) off the statement by which the dump's own 'gosem.cut.vars' lays the variable. In a bare row this is a premise. The card (Qxb6615167aDoorCards.lean) ties it to the program's text. -/
def laid_example_com_tolld_tolld_pkg_budget_windows {H : Type} : DataW H := .slice [.lit (.string [109, 105, 110, 117, 116, 101]), .lit (.string [104, 111, 117, 114]), .lit (.string [100, 97, 121]), .lit (.string [119, 101, 101, 107]), .lit (.string [109, 111, 110, 116, 104]), .lit (.string [116, 111, 116, 97, 108])] []

/-- 'zzlaws_pkg_budget_b1.FnWindowsFreshListShortestFirst': WHATEVER THE INPUT: true; the input reads as it did. -/
def fnWindowsFreshListShortestFirstSpec : ChangeSpec := { name := "fnWindowsFreshListShortestFirst", vars := ["example.com/tolld/tolld/pkg/budget.windows"], fn := fun _ => fun
  | [d, g1] => { results := [.lit (.bool true)], args := [d], vars := [g1] }
  | _ => none }
def fnWindowsFreshListShortestFirstRow : OpenClaim := { program := "qxb6615167adoor", sum := "279f3ef8af0a865839ab310fef4be2eefb462a314e0049f0cf5ca07cbef95f58", func := "example.com/tolld/tolld/zzlaws_pkg_budget_b1.FnWindowsFreshListShortestFirst", spec := "fnWindowsFreshListShortestFirst", named := ["example.com/tolld/tolld/pkg/budget.windows"], apart := false, laid := [("example.com/tolld/tolld/pkg/budget.windows", laid_example_com_tolld_tolld_pkg_budget_windows)] }
def FnWindowsFreshListShortestFirstSaid : Prop := fnWindowsFreshListShortestFirstRow.holds Tryd.pinned (OpenSpec.ofChange fnWindowsFreshListShortestFirstSpec)

/-- ITS FALSE NEIGHBOUR: 'it returns false'. Refute it at one input. -/
def fnWindowsFreshListShortestFirstWrong : ChangeSpec := { name := "fnWindowsFreshListShortestFirst", vars := ["example.com/tolld/tolld/pkg/budget.windows"], fn := fun _ => fun
  | [d, g1] => { results := [.lit (.bool false)], args := [d], vars := [g1] }
  | _ => none }
def FnWindowsFreshListShortestFirstWrongFalsely : Prop := fnWindowsFreshListShortestFirstRow.holds Tryd.pinned (OpenSpec.ofChange fnWindowsFreshListShortestFirstWrong)

end Rows
end Go.Proofs.Qxb6615167aDoor
