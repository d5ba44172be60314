/-
  DERIVED. GIVEN WITH THE SEED: THE CARDS: each row of Qxb6615167aDoorRows.lean that lists a variable, with what it lists TIED to the program's text (the seventh form; the later family's looks); each row that meets fmt, with fmt's text TOLD by the authors' own Lean function (tested against real Go, not proved from fmt's source: count such statements apart). THE CARD IS WHAT COUNTS. Prove the row's statement (the work); the ties are given (Qxb6615167aDoorTie.lean); close each card by the builder's one call (the guide's Derived/Test/ToyasCard.lean, 'card_holds'). Laid BY PROGRAM, IN A SANDBOX (cutbox-door.mjs). By AI agents, Wed Nov 11 2026. No macro, syntax, notation, axiom, sorry.
-/
import Derived.Test.Qxb6615167aDoorRows
import GoSem.ClaimSeven
namespace Go.Proofs.Qxb6615167aDoor
namespace Rows

/-- THE TIED CARD OF 'zzlaws_pkg_budget_b1.FnWindowsFreshListShortestFirst'. -/
def fnWindowsFreshListShortestFirstCard : Claim7 := { stood := { row := fnWindowsFreshListShortestFirstRow, standIns := [], harness := (true, "80ec982acda9cbed4cceeed83e28784ddc0cd17ee3a1d2e437a1012589c85f41"), looks := false }, kinds := [], alts := [], laidByText := true, laidKinds := [.widerDeep], laidTests := true, laidLooks := .later }
def FnWindowsFreshListShortestFirstCardSaid : Prop := Claim7.holds Tryd.pinned (.plain (OpenSpec.ofChange fnWindowsFreshListShortestFirstSpec)) fnWindowsFreshListShortestFirstCard
end Rows
end Go.Proofs.Qxb6615167aDoor
