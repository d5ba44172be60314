/-
  The given statement, proved. The frame is the kit's template at this function's number and types; the walk is filled by hand. By an AI agent.
-/
import Derived.Test.Qxb6616700aPlane
import Derived.Test.Qxb6616700aRows
import Derived.WalkKit
import Derived.ProofKit
import Derived.OpenShut
import Derived.ShutString
namespace Go.Proofs.Qxb6616700a.fnNewPlaneAddressesEverySampleOnce
open Go.ChangeShapes Go.WideShapes Go.ChangeAt Go.RowKit
open Go.ChangeMaps (open_string shut_string)
set_option linter.unusedVariables false      -- a walk need not use every 'w<i>' (that an integer argument fits its kind)

theorem own : ownKnob Try.prog.godebug = none := by kernel_rfl

/-! ### STEP 1: THE WALK -/
set_option maxHeartbeats 2000000 in
/-- A plane with a row: it is made, and every sample is hit once. -/
theorem walk_rows (X Y n : Nat) (w : World) (hX : X ≤ 65536) (hY : Y ≤ 65536) (hn : n ≤ 65536) (hXY : X * Y = n) (hy1 : 0 < Y) (hq : (X : Int) ≤ 65536 / (Y : Int)) :
    Calls Try.prog 3 #[.int .i64 (X : Int), .int .i64 (Y : Int)] w fun e w' => e = .returned (.bool true) ∧ Grown w w' := by
  have HN : Hid (X * Y = n) := hXY
  have hxy : Hid ((X : Int) * (Y : Int) = (n : Int)) := by rw [← hXY]; show _ = _; simp
  clear hXY
  have hmk := make_ints n hn
  go_enter Try.func3, Try.ntmps3
  go_wp2_with fail
  refine (zzNewPlane_any (X : Int) (Y : Int) n _ hn hxy.out).mono ?_
  rintro e w1 ⟨b, rfl, hz, hm⟩
  go_wp2
  have hbg : b < w1.heap.size := hz.lt
  have hgw : w.heap.size ≤ w1.heap.size := hm.below.size
  have hz' := hz.more ((More.refl w1).alloc (zeros (.int .i64 0) n) 3)
  have hm' := hm.alloc (zeros (.int .i64 0) n) 3
  have hh' := hits_of w1 n
  clear hz hm hmk
  go_loopw [10] (fun t wr => ∃ k c : Nat, k ≤ Y ∧ c = k * X ∧ t = .int .i64 k ∧ Hits wr w1.heap.size n c ∧ Zs wr b n ∧ More w wr) (fun t _ => Y - (intOf t).toNat)
  case atStart => exact ⟨0, 0, Nat.zero_le _, by simp, rfl, hh', hz', hm'⟩
  case round =>
    obtain ⟨k, c, hk, hc, rfl, hh, hzr, hmr⟩ := hrel
    have HC : Hid (c = k * X) := hc
    clear hc hh' hz' hm'
    by_cases hlt : k < Y
    · have hfit0 : c + X ≤ n := by rw [HC.out]; exact row_fits HN.out hlt
      go_wp2
      go_loopw [11] (fun t ws => ∃ m : Nat, m ≤ X ∧ t = .int .i64 m ∧ Hits ws w1.heap.size n (c + m) ∧ Zs ws b n ∧ More w ws) (fun t _ => X - (intOf t).toNat)
      case atStart => exact ⟨0, Nat.zero_le _, rfl, hh, hzr, hmr⟩
      case round =>
        obtain ⟨m, hmX0, rfl, hh2, hz2, hm2⟩ := hrel
        clear hh hzr hmr
        by_cases hmX : m < X
        · have hfit : c + m < n := by omega
          have hkc : (k : Int) * (X : Int) = (c : Int) := by rw [HC.out]; simp
          have hcell := hh2.nul (c + m) (Nat.le_refl _) hfit
          have hfz := hh2.free (c + m)
          go_wp2
          go_roundw
          case rel => exact ⟨m + 1, by omega, by go_num, hh2.step hfit, hz2.other hbg _, hm2.setCell hgw _⟩
          case measure => simp [intOf]; omega
        · obtain rfl : m = X := by omega
          go_wp2
          go_roundw
          case rel => exact ⟨k + 1, c + m, by omega, by rw [HC.out, Nat.add_mul, Nat.one_mul], by go_num, hh2, hz2, hm2⟩
          case measure => simp [intOf]; omega
    · obtain rfl : k = Y := by omega
      have hcn : c = n := by rw [HC.out, ← HN.out, Nat.mul_comm]
      subst hcn
      go_wp2
      go_loop [13] (fun t => ∃ i : Nat, i ≤ c ∧ t = .int .i64 i) (fun t => c - (intOf t).toNat)
      case atStart => exact ⟨0, Nat.zero_le _, rfl⟩
      case round =>
        obtain ⟨i, hi, rfl⟩ := hrel
        by_cases hic : i < c
        · have c1 := hh.one i hic
          have c2 := hzr.cell i hic
          go_wp2
          go_round
          case rel => exact ⟨i + 1, by omega, by go_num⟩
          case measure => simp [intOf]; omega
        · go_wp2
          go_ret
          exact ⟨rfl, hmr.grown⟩

set_option maxHeartbeats 2000000 in
/-- A plane without a row: there is no sample. -/
theorem walk_none (X : Nat) (w : World) (hX : X ≤ 65536) :
    Calls Try.prog 3 #[.int .i64 (X : Int), .int .i64 0] w fun e w' => e = .returned (.bool true) ∧ Grown w w' := by
  have hmk : ∀ w : World, (Instr.makeSlice 25 (.int .i64 0) (.int .i64 0)).run Try.prog w = .ok (.slice (some ⟨w.heap.size, 0, none⟩) 0 0) (w.alloc (.cells (zeros (.int .i64 0) 0) 3)) := make_ints 0 (by omega)
  go_enter Try.func3, Try.ntmps3
  go_wp2_with fail
  refine (zzNewPlane_any (X : Int) 0 0 _ (by omega) (by simp)).mono ?_
  rintro e w1 ⟨b, rfl, hz, hm⟩
  go_wp2
  have hm' := hm.alloc (zeros (.int .i64 0) 0) 3
  clear hz hm hmk
  go_loop [10] (fun t => t = .int .i64 0) (fun _ => 0)
  case atStart => rfl
  case round =>
    subst hrel
    go_wp2
    go_loop [13] (fun t => t = .int .i64 0) (fun _ => 0)
    case atStart => rfl
    case round =>
      subst hrel
      go_wp2
      go_ret
      exact ⟨rfl, hm'.grown⟩

theorem walk (a0 : Int) (a1 : Int) (w0 : (Lit.int .i64 a0).wf = true) (w1 : (Lit.int .i64 a1).wf = true) (w : World) :
    Calls Try.prog 3 #[.int .i64 a0, .int .i64 a1] w fun e w' => e = .returned (.bool true) ∧ Grown w w' := by
  by_cases h0 : a0 < 0
  · go_enter Try.func3, Try.ntmps3
    go_wp2
    go_ret
    exact ⟨rfl, Grown.refl _⟩
  by_cases h1 : a1 < 0
  · go_enter Try.func3, Try.ntmps3
    go_wp2
    go_ret
    exact ⟨rfl, Grown.refl _⟩
  by_cases h2 : 65536 < a0
  · go_enter Try.func3, Try.ntmps3
    go_wp2
    go_ret
    exact ⟨rfl, Grown.refl _⟩
  by_cases h3 : 65536 < a1
  · go_enter Try.func3, Try.ntmps3
    go_wp2
    go_ret
    exact ⟨rfl, Grown.refl _⟩
  by_cases h4 : 0 < a1 ∧ 65536 / a1 < a0
  · obtain ⟨h5, h6⟩ := h4
    go_enter Try.func3, Try.ntmps3
    go_wp2
    go_ret
    exact ⟨rfl, Grown.refl _⟩
  have hq : 0 < a1 → a0 ≤ 65536 / a1 := fun h => by
    by_cases h6 : 65536 / a1 < a0
    · exact absurd ⟨h, h6⟩ h4
    · omega
  obtain ⟨hp0, hp1⟩ := plane_size a0 a1 (by omega) (by omega) hq
  obtain ⟨X, rfl⟩ := Int.eq_ofNat_of_zero_le (show 0 ≤ a0 by omega)
  obtain ⟨Y, rfl⟩ := Int.eq_ofNat_of_zero_le (show 0 ≤ a1 by omega)
  have hp2 : ((X * Y : Nat) : Int) ≤ 65536 := by rw [Int.natCast_mul]; exact hp1
  by_cases hy : 0 < Y
  · exact walk_rows X Y (X * Y) w (by omega) (by omega) (by omega) rfl hy (hq (by omega))
  · obtain rfl : Y = 0 := by omega
    exact walk_none X w (by omega)

/-! ### THE ROW's STEP: WRITTEN OUT: LEAVE IT -/
set_option maxRecDepth 100000 in
theorem lifted (os : Os) (started : os.Started) (H : Type) (enc : TypeId × Value → H) :
    ReturnsInHanded {} Try.checked os 3 .any (Rows.fnNewPlaneAddressesEverySampleOnceSpec.pre6 enc Try.prog Try.f3 Rows.fnNewPlaneAddressesEverySampleOnceRow.domain false) (Rows.fnNewPlaneAddressesEverySampleOnceSpec.post enc Try.prog Try.f3 false true false false) := by
  refine returnsInHanded_of_change (C := Try.checked) own started (by kernel_rfl) Try.func3
    (ChangeSpec.witness6 (enc := enc) (C := Try.checked) false ⟨#[], #[.int .i64 0, .int .i64 0], []⟩ 8 (by kernel_rfl) (by kernel_rfl) (by kernel_rfl) (by kernel_rfl)) ?_
  intro W base args ds gs before hval0 hW hcnd _
  have hval : ∀ (j : Nat) t v, Try.f3.params[j]? = some t → args[j]? = some v → Value.okWide Try.prog W .any base t v := hval0
  have hW' := hW
  obtain ⟨p, q, hA0, hV, rfl, hfz, hnd⟩ := hW
  have hA : DataW.TrodAll enc Try.prog W 0 (fun _ => true) true Try.f3.params.toList args.toList ds p := hA0
  rw [Try.params3] at hA hval
  obtain ⟨v0, vs0, d0, ds0, p0, q0, hargs, rfl, rfl, h0, r0⟩ := trodAll_cons hA
  obtain ⟨v1, vs1, d1, ds1, p1, q1, rfl, rfl, rfl, h1, r1⟩ := trodAll_cons r0
  obtain ⟨rfl, rfl, rfl⟩ := trodAll_nil r1
  obtain rfl : args = #[v0, v1] := by cases args; simp_all
  obtain ⟨rfl, rfl⟩ := trodVars_none hV
  obtain ⟨a0, rfl, rfl, rfl, w0⟩ := open_int Try.underlying3 (hval 0 3 v0 rfl rfl) h0
  obtain ⟨a1, rfl, rfl, rfl, w1⟩ := open_int Try.underlying3 (hval 1 3 v1 rfl rfl) h1
  clear hA0 hval0
  simp only [List.append_nil] at hW'
  refine (walk a0 a1 w0 w1 W).mono fun e W' ⟨he, hg⟩ => ?_
  subst he
  exact ⟨_, rfl, post_of_same (pa := []) (pv := []) hW' (fun _ _ _ => (trodAll_cons_mk (shut_bool Try.underlying4 _) trodAll_mk0)) (fun sp _ => (trodAll_cons_mk (shut_int Try.underlying3 w0) (trodAll_cons_mk (shut_int Try.underlying3 w1) trodAll_mk0))) (fun _ _ => rfl) rfl
    (hg.frame _) hg.2.1 (ok_one (by kernel_rfl) rfl (okWide_bool_mk Try.underlying4 _))⟩

theorem over : Rows.fnNewPlaneAddressesEverySampleOnceRow.holds Try.pinned (OpenSpec.ofChange Rows.fnNewPlaneAddressesEverySampleOnceSpec) :=
  OpenClaim.holds_of_wide 3 Try.f3 rfl rfl rfl rfl rfl rfl rfl ⟨rfl, rfl, rfl, rfl, rfl⟩ rfl rfl rfl rfl rfl (by kernel_rfl) Try.func3 (by kernel_rfl)
    (of_decide_eq_true (by kernel_rfl)) (by unfold Func.isWrapper; first | (rw [if_pos (by decide +kernel)]; kernel_rfl) | (rw [if_neg (by decide +kernel)]; exact ⟨rfl, rfl⟩))
    (fun os started H enc _ => lifted os started H enc)

/-- ████ THE STATEMENT ████ -/
theorem proved : Rows.FnNewPlaneAddressesEverySampleOnceSaid :=
  over
#print axioms proved
end Go.Proofs.Qxb6616700a.fnNewPlaneAddressesEverySampleOnce
