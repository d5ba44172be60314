/-
  THE TIED CARD: the row's statement (Qxb6615167aDoorRow), the given tie (Qxb6615167aDoorTie), closed by the builder. After the guide's ToyasCard and MapyCard, turned to this program. By an AI agent.
-/
import Derived.Test.Qxb6615167aDoorRow
import Derived.Test.Qxb6615167aDoorTie
import Derived.Test.Qxb6615167aDoorCards
import Derived.SevenTiedAt
namespace Go.Proofs.Qxb6615167aDoor
open Go

theorem card_holds : Rows.FnWindowsFreshListShortestFirstCardSaid :=
  Claim7.holds_tied_plain_at .later [] [.widerDeep] true Rows.fnWindowsFreshListShortestFirstCard.stood.harness false
    over (fun _ h => by cases h) (by kernel_rfl) (fun _ h => by cases h) fnWindowsFreshListShortestFirst_row_tie rfl ⟨rfl, rfl⟩ (by kernel_rfl) rfl
    (fun f fn hf hfn => by
      obtain rfl : f = 3 := Option.some.inj ((show Tryd.prog.funcNamed Rows.fnWindowsFreshListShortestFirstRow.func = some 3 by kernel_rfl).symm.trans hf) |>.symm
      obtain rfl : fn = Tryd.f3 := (Option.some.inj (Tryd.func3.symm.trans hfn)).symm
      exact ⟨by kernel_rfl, fun j t ht => by
        rw [Tryd.params3] at ht
        have hm : t ∈ [9] := by simpa using Array.mem_of_getElem? ht
        have hall : ([9].all fun u => !Tryd.prog.wantsStandIn u) = true := by kernel_rfl
        exact (show Tryd.prog.wantsStandIn t = false by simpa using List.all_eq_true.1 hall t hm)⟩)
    (by kernel_rfl)
#print axioms card_holds
end Go.Proofs.Qxb6615167aDoor
