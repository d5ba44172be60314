/-
  THE ROW, PROVED: the listed variable opened, the walk, the variable read again. After the guide's MapyProofs and Tab6Proofs, turned to this program. By an AI agent.
-/
import Derived.Test.Qxb6615167aDoorWalks
import Derived.ProofKit
import Derived.LaidMore
import Derived.OpenShut
import Derived.ShutString
import Derived.Stop.Joined
namespace Go.Proofs.Qxb6615167aDoor
open Go.ChangeShapes Go.WideShapes Go.ChangeAt Go.RowKit
open Go.ChangeMaps (open_string shut_string)

theorem own : ownKnob Tryd.prog.godebug = none := by kernel_rfl
theorem laidOut : laidOutB Tryd.prog = true := by kernel_rfl
/-- The listed variable's name. -/
def nm : String := Rows.fnWindowsFreshListShortestFirstSpec.vars.headD default
theorem gW : Tryd.prog.globalNamed nm = some 0 := by kernel_rfl
theorem tW : (Tryd.prog.globals[0]?).map (·.type) = some 23 := by kernel_rfl
theorem cells26 : Tryd.prog.cellsOf 26 = 1 := by kernel_rfl
theorem vars_eq : Rows.fnWindowsFreshListShortestFirstSpec.vars = [nm] := rfl
theorem laid_eq : Rows.fnWindowsFreshListShortestFirstRow.laid = [(nm, Rows.laid_example_com_tolld_tolld_pkg_budget_windows)] := rfl

/-- The door's own heap meets the condition. -/
theorem door_met (os : Os) (args : Array Value) : laidMetH Tryd.prog Rows.fnWindowsFreshListShortestFirstRow.laid ((World.doorLaid Tryd.prog 400 os).forCall (fun _ _ => 0) ⟨#[], args, []⟩).memory :=
  laidMetH_of_parts3 (fuel := 8) (laidMet_of_run' 8 (by kernel_rfl) (by kernel_rfl)) (by kernel_rfl) (by kernel_rfl)

theorem strs_inj {H : Type} {ss : List ByteArray} (h : (strs ss : List (DataW H)) = strs wl) : ss = wl := by
  unfold strs at h
  refine (List.map_inj_right ?_).1 h
  intro x y hxy
  simp only [DataW.lit.injEq, Lit.string.injEq] at hxy
  exact ByteArray.ext (Array.ext' hxy)

/-- WHAT THE CONDITION GIVES THE WALK: the variable's cell, the six strings behind it. -/
theorem of_laid {W : World} (h : laidMetH Tryd.prog Rows.fnWindowsFreshListShortestFirstRow.laid W) : ∃ b off c, W.var? Tryd.prog nm = some #[.slice (some ⟨b, off, none⟩) 6 c] ∧
    ∀ j, j < 6 → W.cell? ⟨b, off + j, none⟩ = some (.string (wn j)) := by
  rw [MakeChecks.laidMetH_plain _ _ _ (by kernel_rfl), laid_eq] at h
  obtain ⟨ps, ⟨g, t, cs, fuel, p, q, hg, ht, hvar, hd, _, _⟩, _⟩ := h
  obtain rfl := Option.some.inj (gW.symm.trans hg)
  obtain rfl := Option.some.inj (tW.symm.trans ht)
  rcases open_strings Tryd.underlying23 Tryd.underlying26 cells26 hd with ⟨_, hx⟩ | ⟨a, len, cap, ss, hcs, _, hl, hm, hz, hx, hcell, hws⟩
  · simp [Rows.laid_example_com_tolld_tolld_pkg_budget_windows] at hx
  have hx1 : (Rows.laid_example_com_tolld_tolld_pkg_budget_windows : DataW Unit) = .slice (strs (ss.take len)) (strs (ss.drop len)) := congrArg Prod.fst hx
  have hx2 : (DataW.slice (strs wl) [] : DataW Unit) = .slice (strs (ss.take len)) (strs (ss.drop len)) := hx1
  simp only [DataW.slice.injEq] at hx2
  have ht6 : ss.take len = wl := strs_inj hx2.1.symm
  have hzc : ss.length = cap := by simpa using hz
  have hlen : len = 6 := by
    have := congrArg List.length ht6
    simp [wl] at this
    omega
  subst hlen
  have hspot : ∃ b off, a = ⟨b, off, none⟩ := by
    obtain ⟨b, off, spot⟩ := a
    have := hcell 0 (by omega)
    exact ⟨b, off, by rw [show spot = none by simpa [Addr.add] using World.cell?_spot this]⟩
  obtain ⟨b, off, rfl⟩ := hspot
  refine ⟨b, off, cap, ?_, fun j hj => ?_⟩
  · rw [Array.eq_one_of_toList hcs] at hvar
    exact hvar
  · rw [← Go.WideShapes.add_plain, hcell j (by omega)]
    have e : ss.getD j ByteArray.empty = (ss.take 6).getD j ByteArray.empty := by simp [List.getD, hj]
    rw [e, ht6]
    rfl

set_option maxRecDepth 100000 in
theorem lifted (os : Os) (started : os.Started) (H : Type) (enc : TypeId × Value → H) :
    ReturnsInHanded {} Tryd.checked os 3 .any (fun w args => (Rows.fnWindowsFreshListShortestFirstSpec.pre enc Tryd.prog Tryd.f3 [] false w args ∧ laidMetH Tryd.prog Rows.fnWindowsFreshListShortestFirstRow.laid w) ∧ sizedMet enc Tryd.prog Tryd.f3 (OpenSpec.ofChange Rows.fnWindowsFreshListShortestFirstSpec) false w args)
      (Rows.fnWindowsFreshListShortestFirstSpec.post enc Tryd.prog Tryd.f3 false true false false) := by
  refine returnsInHanded_of_change_and (C := Tryd.checked) (X := fun w _ => laidMetH Tryd.prog Rows.fnWindowsFreshListShortestFirstRow.laid w) (fun _ _ _ hh h => h.of_heap hh) own started (by kernel_rfl) Tryd.func3
    (ChangeSpec.witness_shaped (enc := enc) (C := Tryd.checked) (os := os) (X := fun w _ => laidMetH Tryd.prog Rows.fnWindowsFreshListShortestFirstRow.laid w) false (World.doorLaid Tryd.prog 400 os) #[.string ByteArray.empty] 8 rfl (World.shaped_of_RefB (by kernel_rfl) (by kernel_rfl)) (by kernel_rfl) (by kernel_rfl) (by kernel_rfl) (door_met os _)) ?_
  intro W base args ds gs before hval0 hW _ _ hL _
  have hval : ∀ (j : Nat) t v, Tryd.f3.params[j]? = some t → args[j]? = some v → Value.okWide Tryd.prog W .any base t v := hval0
  have hW' := hW
  obtain ⟨p, q, hA0, hV0, rfl, hfz, hnd⟩ := hW
  have hA : DataW.TrodAll enc Tryd.prog W 0 (fun _ => true) true Tryd.f3.params.toList args.toList ds p := hA0
  have hV : DataW.TrodVars enc Tryd.prog W (fun _ => true) [nm] gs q := hV0
  rw [Tryd.params3] at hA hval
  obtain ⟨v0, d0, rfl, rfl, h0⟩ := trodAll_one hA
  obtain ⟨s, rfl, rfl, rfl, w0⟩ := open_string Tryd.underlying9 (hval 0 9 v0 rfl rfl) h0
  obtain ⟨g, t, cs, fuel, d, p', rfl, hg, ht, hvar, hd, rfl⟩ := trodVars_one hV
  obtain rfl := Option.some.inj (gW.symm.trans hg)
  obtain rfl := Option.some.inj (tW.symm.trans ht)
  obtain ⟨b, off, c, hvr, hc⟩ := of_laid hL
  have hv : W.cell? ⟨0, 0, none⟩ = some (.slice (some ⟨b, off, none⟩) 6 c) := by simpa using World.var?_cell hg hvr 0
  clear hA0 hV0 hval0
  refine (law_any s b off c W w0 hv hc).mono fun e W' ⟨he, bel⟩ => ?_
  subst he
  have hlt : ∀ x ∈ p', x.block < W.heap.size := DataW.trod_lt fuel _ _ _ hd
  have h00 : (0 : Nat) < W.heap.size := World.block_lt_of_cell? W _ hv
  have hvar' : W'.var? Tryd.prog nm = some cs := by
    rw [← hvar]
    simp only [World.var?, gW, Option.bind_some, bel.block 0 h00]
  have hcs : cs = #[.slice (some ⟨b, off, none⟩) 6 c] := Option.some.inj (hvar.symm.trans hvr)
  subst hcs
  obtain ⟨fuel', hd'⟩ := Below.trod (v := .slice (some ⟨b, off, none⟩) 6 c) laidOut (by kernel_rfl) (of_decide_eq_true (by kernel_rfl)) ⟨fuel, hd⟩ bel hlt
  exact ⟨_, rfl, _, _, _, [], _, _, hW', trodAll_mk1 (shut_bool Tryd.underlying4 _), trodAll_mk1 (shut_string Tryd.underlying9 w0), trodVars_mk1 hg ht hvar' hd', bel.frame _, fun h => by cases h⟩

theorem over : Rows.FnWindowsFreshListShortestFirstSaid :=
  OpenClaim.holds_of_wide 3 Tryd.f3 rfl rfl rfl rfl rfl rfl rfl ⟨rfl, rfl, rfl, rfl, rfl⟩ rfl rfl rfl rfl rfl (by kernel_rfl) Tryd.func3 (by kernel_rfl)
    (of_decide_eq_true (by kernel_rfl)) (by unfold Func.isWrapper; first | (rw [if_pos (by decide +kernel)]; kernel_rfl) | (rw [if_neg (by decide +kernel)]; exact ⟨rfl, rfl⟩))
    (fun os started H enc _ => lifted os started H enc)
#print axioms over
end Go.Proofs.Qxb6615167aDoor
