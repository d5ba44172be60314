/-
  The given statement, proved. The frame is the kit's template at this function's number and types; the walk is filled by hand. By an AI agent.
-/
import Derived.Test.Qxb6618306aHas
import Derived.Test.Qxb6618306aRows
import Derived.WalkKit
import Derived.ProofKit
import Derived.OpenShut
import Derived.ShutString
namespace Go.Proofs.Qxb6618306a.fnBuildEnvTargetEntersOnlyByGOOSAndGOARCH
open Go.ChangeShapes Go.WideShapes Go.ChangeAt Go.RowKit
open Go.ChangeMaps (open_string shut_string)
set_option linter.unusedVariables false      -- a walk need not use every 'w<i>' (that an integer argument fits its kind)

theorem own : ownKnob Try.prog.godebug = none := by kernel_rfl

/-! ### STEP 1: THE WALK: the Go text returns true. 'Grown w w'': the world has at most new blocks (Derived/RowKit3.lean). Part the cases AHEAD of 'go_enter' where a test parts the walk; take each callee by a contract of your own. -/
theorem walk (a0 : ByteArray) (a1 : ByteArray) (a2 : ByteArray) (a3 : ByteArray) (w0 : a0.size ≤ maxLen) (w1 : a1.size ≤ maxLen) (w2 : a2.size ≤ maxLen) (w3 : a3.size ≤ maxLen) (w : World) :
    Calls Try.prog 3 #[.string a0, .string a1, .string a2, .string a3] w fun e w' => e = .returned (.bool true) ∧ Grown w w' := by
  by_cases h0 : (262144 : Int) < (a0.size : Int)
  · go_enter Try.func3, Try.ntmps3
    go_wp2_with fail
    refine (zzBytes_any a0 a1 a2 a3 _ w0 w1 w2 w3).mono ?_
    rintro e w' ⟨t, rfl, rfl⟩
    cases t
    all_goals
      go_wp2
      go_ret
      exact ⟨rfl, Grown.refl _⟩
  by_cases h1 : (262144 : Int) < (a1.size : Int)
  · go_enter Try.func3, Try.ntmps3
    go_wp2_with fail
    refine (zzBytes_any a0 a1 a2 a3 _ w0 w1 w2 w3).mono ?_
    rintro e w' ⟨t, rfl, rfl⟩
    cases t
    all_goals
      go_wp2
      go_ret
      exact ⟨rfl, Grown.refl _⟩
  by_cases h2 : (262144 : Int) < (a2.size : Int)
  · go_enter Try.func3, Try.ntmps3
    go_wp2_with fail
    refine (zzBytes_any a0 a1 a2 a3 _ w0 w1 w2 w3).mono ?_
    rintro e w' ⟨t, rfl, rfl⟩
    cases t
    all_goals
      go_wp2
      go_ret
      exact ⟨rfl, Grown.refl _⟩
  by_cases h3 : (262144 : Int) < (a3.size : Int)
  · go_enter Try.func3, Try.ntmps3
    go_wp2_with fail
    refine (zzBytes_any a0 a1 a2 a3 _ w0 w1 w2 w3).mono ?_
    rintro e w' ⟨t, rfl, rfl⟩
    cases t
    all_goals
      go_wp2
      go_ret
      exact ⟨rfl, Grown.refl _⟩
  have s0 : a0.size ≤ 262144 := by omega
  have s1 : a1.size ≤ 262144 := by omega
  have s2 : a2.size ≤ 262144 := by omega
  have s3 : a3.size ≤ 262144 := by omega
  go_enter Try.func3, Try.ntmps3
  go_wp2_with fail
  refine (zzBytes_any a0 a1 a2 a3 _ w0 w1 w2 w3).mono ?_
  rintro e w' ⟨t, rfl, rfl⟩
  cases t
  · go_wp2
    go_ret
    exact ⟨rfl, Grown.refl _⟩
  go_wp2_with fail
  refine (zzBuildEnv_any a0 a1 _ s0 s1).mono ?_
  rintro e wa ⟨ba, rfl, la, ma⟩
  go_wp2_with fail
  refine (zzBuildEnv_any a2 a3 _ s2 s3).mono ?_
  rintro e wb ⟨bb, rfl, lb, mb⟩
  have LA : Lies wb ba a0 a1 := la.more mb
  have MB : More w wb := ma.trans mb
  clear la ma mb
  go_wp2_with fail
  refine (wf_of s0 s1 LA).mono ?_
  rintro e w' ⟨rfl, rfl⟩
  go_wp2_with fail
  refine (wf_of s2 s3 lb).mono ?_
  rintro e w' ⟨rfl, rfl⟩
  go_wp2_with fail
  refine (has_os s0 s1 LA).mono ?_
  rintro e w' ⟨rfl, rfl⟩
  go_wp2_with fail
  refine (has_arch s0 s1 LA).mono ?_
  rintro e w' ⟨rfl, rfl⟩
  go_wp2_with fail
  refine (has_os s2 s3 lb).mono ?_
  rintro e w' ⟨rfl, rfl⟩
  go_wp2_with fail
  refine (has_arch s2 s3 lb).mono ?_
  rintro e w' ⟨rfl, rfl⟩
  go_wp2_with fail
  refine (has_cgo s0 s1 LA).mono ?_
  rintro e w' ⟨rfl, rfl⟩
  go_wp2_with fail
  refine (has_work s0 s1 LA).mono ?_
  rintro e w' ⟨rfl, rfl⟩
  go_wp2_with fail
  clear h0 h1 h2 h3
  go_loopw [11] (fun i wr => ∃ k : Nat, k ≤ 9 ∧ i = .int .i64 k ∧ Lies wr ba a0 a1 ∧ Lies wr bb a2 a3 ∧ More w wr) (fun i _ => 9 - (intOf i).toNat)
  case atStart => exact ⟨0, Nat.zero_le _, rfl, LA, lb, MB⟩
  case round =>
    obtain ⟨k, hk, rfl, la, lb', mr⟩ := hrel
    clear LA lb MB
    by_cases hlt : k < 9
    · have ca := la.cell k hlt
      have ea := entry a0 a1 s0 s1 k
      have eb := entry a2 a3 s2 s3 k
      by_cases hk2 : 2 ≤ k
      · have cb := lb'.cell k hlt
        rw [es_same a2 a3 a0 a1 k hk2] at cb eb
        have q0 := (ks_other k hk2 hlt).1
        have q1 := (ks_other k hk2 hlt).2
        have hkz : (ks k).size ≤ 18 := by rw [ks_size]; exact kl_short k
        have q2 : (((es a0 a1 k).size : Int) == ((ks k).size : Int) + 1) = false := by
          have := vl_some a0 a1 k hk2
          rw [es_size, ks_size]; simp; omega
        go_wp2_with fail
        refine (envKey_any _ (ks k) _ ea).mono ?_
        rintro e w' ⟨rfl, rfl⟩
        go_wp2_with fail
        refine (envKey_any _ (ks k) _ eb).mono ?_
        rintro e w' ⟨rfl, rfl⟩
        go_wp2
        go_region
        go_wp2
        go_roundw
        case rel => exact ⟨k + 1, by omega, by go_num, la.more (More.refl wr).drew, lb'.more (More.refl wr).drew, mr.drew⟩
        case measure => simp [intOf]; omega
      · have cb := lb'.cell k hlt
        by_cases hk1 : k = 0
        · have q0 : ((ks k).toList == [71, 79, 79, 83]) = true := by rw [hk1, ks_list]; rfl
          clear hk1
          go_wp2_with fail
          refine (envKey_any _ (ks k) _ ea).mono ?_
          rintro e w' ⟨rfl, rfl⟩
          go_wp2_with fail
          refine (envKey_any _ (ks k) _ eb).mono ?_
          rintro e w' ⟨rfl, rfl⟩
          go_wp2
          go_roundw
          case rel => exact ⟨k + 1, by omega, by go_num, la, lb', mr⟩
          case measure => simp [intOf]; omega
        · have hk3 : k = 1 := by omega
          have q0 : ((ks k).toList == [71, 79, 79, 83]) = false := by rw [hk3, ks_list]; rfl
          have q1 : ((ks k).toList == [71, 79, 65, 82, 67, 72]) = true := by rw [hk3, ks_list]; rfl
          clear hk1 hk3
          go_wp2_with fail
          refine (envKey_any _ (ks k) _ ea).mono ?_
          rintro e w' ⟨rfl, rfl⟩
          go_wp2_with fail
          refine (envKey_any _ (ks k) _ eb).mono ?_
          rintro e w' ⟨rfl, rfl⟩
          go_wp2
          go_roundw
          case rel => exact ⟨k + 1, by omega, by go_num, la, lb', mr⟩
          case measure => simp [intOf]; omega
    · go_wp2
      go_ret
      exact ⟨rfl, mr.grown⟩

/-! ### THE ROW's STEP: WRITTEN OUT: LEAVE IT -/
set_option maxRecDepth 100000 in
theorem lifted (os : Os) (started : os.Started) (H : Type) (enc : TypeId × Value → H) :
    ReturnsInHanded {} Try.checked os 3 .any (Rows.fnBuildEnvTargetEntersOnlyByGOOSAndGOARCHSpec.pre6 enc Try.prog Try.f3 Rows.fnBuildEnvTargetEntersOnlyByGOOSAndGOARCHRow.domain false) (Rows.fnBuildEnvTargetEntersOnlyByGOOSAndGOARCHSpec.post enc Try.prog Try.f3 false true false false) := by
  refine returnsInHanded_of_change (C := Try.checked) own started (by kernel_rfl) Try.func3
    (ChangeSpec.witness6 (enc := enc) (C := Try.checked) false ⟨#[], #[.string ByteArray.empty, .string ByteArray.empty, .string ByteArray.empty, .string ByteArray.empty], []⟩ 8 (by kernel_rfl) (by kernel_rfl) (by kernel_rfl) (by kernel_rfl)) ?_
  intro W base args ds gs before hval0 hW hcnd _
  have hval : ∀ (j : Nat) t v, Try.f3.params[j]? = some t → args[j]? = some v → Value.okWide Try.prog W .any base t v := hval0
  have hW' := hW
  obtain ⟨p, q, hA0, hV, rfl, hfz, hnd⟩ := hW
  have hA : DataW.TrodAll enc Try.prog W 0 (fun _ => true) true Try.f3.params.toList args.toList ds p := hA0
  rw [Try.params3] at hA hval
  obtain ⟨v0, vs0, d0, ds0, p0, q0, hargs, rfl, rfl, h0, r0⟩ := trodAll_cons hA
  obtain ⟨v1, vs1, d1, ds1, p1, q1, rfl, rfl, rfl, h1, r1⟩ := trodAll_cons r0
  obtain ⟨v2, vs2, d2, ds2, p2, q2, rfl, rfl, rfl, h2, r2⟩ := trodAll_cons r1
  obtain ⟨v3, vs3, d3, ds3, p3, q3, rfl, rfl, rfl, h3, r3⟩ := trodAll_cons r2
  obtain ⟨rfl, rfl, rfl⟩ := trodAll_nil r3
  obtain rfl : args = #[v0, v1, v2, v3] := by cases args; simp_all
  obtain ⟨rfl, rfl⟩ := trodVars_none hV
  obtain ⟨a0, rfl, rfl, rfl, w0⟩ := open_string Try.underlying9 (hval 0 9 v0 rfl rfl) h0
  obtain ⟨a1, rfl, rfl, rfl, w1⟩ := open_string Try.underlying9 (hval 1 9 v1 rfl rfl) h1
  obtain ⟨a2, rfl, rfl, rfl, w2⟩ := open_string Try.underlying9 (hval 2 9 v2 rfl rfl) h2
  obtain ⟨a3, rfl, rfl, rfl, w3⟩ := open_string Try.underlying9 (hval 3 9 v3 rfl rfl) h3
  clear hA0 hval0
  simp only [List.append_nil] at hW'
  refine (walk a0 a1 a2 a3 w0 w1 w2 w3 W).mono fun e W' ⟨he, hg⟩ => ?_
  subst he
  exact ⟨_, rfl, post_of_same (pa := []) (pv := []) hW' (fun _ _ _ => (trodAll_cons_mk (shut_bool Try.underlying4 _) trodAll_mk0)) (fun sp _ => (trodAll_cons_mk (shut_string Try.underlying9 w0) (trodAll_cons_mk (shut_string Try.underlying9 w1) (trodAll_cons_mk (shut_string Try.underlying9 w2) (trodAll_cons_mk (shut_string Try.underlying9 w3) trodAll_mk0))))) (fun _ _ => rfl) rfl
    (hg.frame _) hg.2.1 (ok_one (by kernel_rfl) rfl (okWide_bool_mk Try.underlying4 _))⟩

theorem over : Rows.fnBuildEnvTargetEntersOnlyByGOOSAndGOARCHRow.holds Try.pinned (OpenSpec.ofChange Rows.fnBuildEnvTargetEntersOnlyByGOOSAndGOARCHSpec) :=
  OpenClaim.holds_of_wide 3 Try.f3 rfl rfl rfl rfl rfl rfl rfl ⟨rfl, rfl, rfl, rfl, rfl⟩ rfl rfl rfl rfl rfl (by kernel_rfl) Try.func3 (by kernel_rfl)
    (of_decide_eq_true (by kernel_rfl)) (by unfold Func.isWrapper; first | (rw [if_pos (by decide +kernel)]; kernel_rfl) | (rw [if_neg (by decide +kernel)]; exact ⟨rfl, rfl⟩))
    (fun os started H enc _ => lifted os started H enc)

/-- ████ THE STATEMENT ████ -/
theorem proved : Rows.FnBuildEnvTargetEntersOnlyByGOOSAndGOARCHSaid :=
  over
#print axioms proved
end Go.Proofs.Qxb6618306a.fnBuildEnvTargetEntersOnlyByGOOSAndGOARCH
