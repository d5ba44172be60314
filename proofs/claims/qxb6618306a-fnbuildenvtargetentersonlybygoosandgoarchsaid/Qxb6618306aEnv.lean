/-
  The walks of the small functions of the law's road: envEqB1, envKeyB1. By an AI agent.
-/
import Derived.Test.Qxb6618306aRows
import Derived.WalkKit
import Derived.WalkSpells
import Derived.ProofKit
namespace Go.Proofs.Qxb6618306a
open Go.RowKit

/-- The text s opens with a key of p bytes, none of them '=', and '=' follows. -/
structure KeyAt (s : ByteArray) (p : Nat) : Prop where
  lt : p < s.size
  eq : ∀ h : p < s.size, s[p].toNat = 61
  ne : ∀ j, (h : j < s.size) → j < p → s[j].toNat ≠ 61

theorem key_here {s : ByteArray} {p k : Nat} (hk : KeyAt s p) (hks : k < s.size) (hkp : k ≤ p) (h1 : ((s[k].toNat : Int) == 61) = true) : k = p := by
  by_cases e : k < p
  · have := hk.ne k hks e
    simp at h1
    omega
  · omega

theorem key_on {s : ByteArray} {p k : Nat} (hk : KeyAt s p) (hks : k < s.size) (hkp : k ≤ p) (h1 : ((s[k].toNat : Int) == 61) = false) : k < p := by
  by_cases e : k = p
  · subst e
    have := hk.eq hks
    simp at h1
    omega
  · omega

set_option maxHeartbeats 400000 in
/-- envEqB1: the place of the first '='. -/
theorem envEq_any (s : ByteArray) (p : Nat) (w : World) (hs : s.size ≤ maxLen) (hk : KeyAt s p) :
    Calls Try.prog 10 #[.string s] w fun e w' => e = .returned (.int .i64 p) ∧ w = w' := by
  unfold maxLen at hs
  have hlt := hk.lt
  have HK : Hid (KeyAt s p) := hk
  clear hk
  go_enter Try.func10, Try.ntmps10
  go_wp2
  go_loop [3] (fun i => ∃ k : Nat, k ≤ p ∧ i = .int .i64 k) (fun i => p - (intOf i).toNat)
  case atStart => exact ⟨0, Nat.zero_le _, rfl⟩
  case round =>
    obtain ⟨k, hkp, rfl⟩ := hrel
    have hks : k < s.size := by omega
    go_wp2
    · have h1 : ((s[k].toNat : Int) == 61) = true := by assumption
      have hkp' : k = p := key_here HK.out hks hkp h1
      subst hkp'
      go_ret
      exact ⟨rfl, rfl⟩
    · have h1 : ((s[k].toNat : Int) == 61) = false := by assumption
      have hkp' : k < p := key_on HK.out hks hkp h1
      go_round
      case rel => exact ⟨k + 1, by omega, by go_num⟩
      case measure => simp [intOf]; omega

/-- An entry 'k=..' of an environment: the key k bears no '='. -/
structure Entry (s k : ByteArray) : Prop where
  size : s.size ≤ maxLen
  place : KeyAt s k.size
  key : s.extract 0 k.size = k

set_option maxHeartbeats 400000 in
/-- envKeyB1: what stands ahead of the first '='. -/
theorem envKey_any (s k : ByteArray) (w : World) (hk : Entry s k) :
    Calls Try.prog 8 #[.string s] w fun e w' => e = .returned (.string k) ∧ w = w' := by
  have hlt := hk.place.lt
  go_enter Try.func8, Try.ntmps8
  go_wp2_with (go_at_call 10; refine (envEq_any _ k.size _ hk.size hk.place).mono ?_; rintro e w' ⟨rfl, rfl⟩)
  go_ret
  refine ⟨?_, rfl⟩
  rw [hk.key]
  rfl

set_option maxHeartbeats 400000 in
/-- envWellFormedB1: every entry has its '=' behind a key that is not empty, no key comes twice. -/
theorem wellFormed_any (b n cap : Nat) (es ks : Nat → ByteArray) (w : World) (hn : n ≤ 1000)
    (hc : ∀ j, j < n → w.cell? ⟨b, j, none⟩ = some (.string (es j))) (he : ∀ j, j < n → Entry (es j) (ks j))
    (h1 : ∀ j, j < n → 1 ≤ (ks j).size) (hd : ∀ i j, i < n → j < i → ((ks j).toList == (ks i).toList) = false) :
    Calls Try.prog 6 #[.slice (some ⟨b, 0, none⟩) n cap] w fun e w' => e = .returned (.bool true) ∧ w = w' := by
  have HC : Hid (∀ j, j < n → w.cell? ⟨b, j, none⟩ = some (.string (es j))) := hc
  have HD : Hid (∀ i j, i < n → j < i → ((ks j).toList == (ks i).toList) = false) := hd
  have HE : Hid (∀ j, j < n → Entry (es j) (ks j)) := he
  have H1 : Hid (∀ j, j < n → 1 ≤ (ks j).size) := h1
  clear hc hd he h1
  go_enter Try.func6, Try.ntmps6
  go_wp2
  go_loop [3, 4, 5] (fun i _ _ => ∃ k : Nat, k ≤ n ∧ i = .int .i64 k) (fun i _ _ => n - (intOf i).toNat)
  case atStart => exact ⟨0, Nat.zero_le _, rfl⟩
  case round =>
    obtain ⟨k, hk, rfl⟩ := hrel
    by_cases hlt : k < n
    · have hcx := HC.out k hlt
      have hex := HE.out k hlt
      have h1x := H1.out k hlt
      go_wp2_with (first | (go_at_call 10; refine (envEq_any _ (ks k).size _ hex.size hex.place).mono ?_; rintro e w' ⟨rfl, rfl⟩) | (go_at_call 8; refine (envKey_any _ (ks k) _ hex).mono ?_; rintro e w' ⟨rfl, rfl⟩))
      clear hcx hex h1x
      go_loop [5] (fun j => ∃ m : Nat, m ≤ k ∧ j = .int .i64 m) (fun j => k - (intOf j).toNat)
      case atStart => exact ⟨0, Nat.zero_le _, rfl⟩
      case round =>
        obtain ⟨m, hm, rfl⟩ := hrel
        by_cases hmk : m < k
        · have hcy := HC.out m (by omega)
          have hey := HE.out m (by omega)
          have hdy := HD.out k m hlt hmk
          go_wp2_with (go_at_call 8; refine (envKey_any _ (ks m) _ hey).mono ?_; rintro e w' ⟨rfl, rfl⟩)
          go_round
          case rel => exact ⟨m + 1, by omega, by go_num⟩
          case measure => simp [intOf]; omega
        · go_wp2
          go_round
          case rel => exact ⟨k + 1, by omega, by go_num⟩
          case measure => simp [intOf]; omega
    · go_wp2
      go_ret
      exact ⟨rfl, rfl⟩

set_option maxHeartbeats 400000 in
/-- envHasB1: the first entry of that key bears that value. -/
theorem has_any (b n cap m : Nat) (es ks : Nat → ByteArray) (key v : ByteArray) (w : World) (hn : n ≤ 1000) (hm : m < n)
    (hc : ∀ j, j < n → w.cell? ⟨b, j, none⟩ = some (.string (es j))) (he : ∀ j, j < n → Entry (es j) (ks j))
    (hno : ∀ j, j < m → ((ks j).toList == key.toList) = false) (hyes : ((ks m).toList == key.toList) = true)
    (hroom : key.size + 1 ≤ (es m).size) (hval : (((es m).extract (key.size + 1) (es m).size).toList == v.toList) = true) :
    Calls Try.prog 7 #[.slice (some ⟨b, 0, none⟩) n cap, .string key, .string v] w fun e w' => e = .returned (.bool true) ∧ w = w' := by
  have HC : Hid (∀ j, j < n → w.cell? ⟨b, j, none⟩ = some (.string (es j))) := hc
  have HE : Hid (∀ j, j < n → Entry (es j) (ks j)) := he
  have HN : Hid (∀ j, j < m → ((ks j).toList == key.toList) = false) := hno
  have HY : Hid (((ks m).toList == key.toList) = true) := hyes
  have HV : Hid ((((es m).extract (key.size + 1) (es m).size).toList == v.toList) = true) := hval
  have hsm : (es m).size ≤ 9223372036854775807 := (he m hm).size
  clear hc he hno hyes hval
  go_enter Try.func7, Try.ntmps7
  go_wp2
  go_loop [7] (fun i => ∃ k : Nat, k ≤ m ∧ i = .int .i64 k) (fun i => m - (intOf i).toNat)
  case atStart => exact ⟨0, Nat.zero_le _, rfl⟩
  case round =>
    obtain ⟨k, hk, rfl⟩ := hrel
    have hcx := HC.out k (by omega)
    have hex := HE.out k (by omega)
    by_cases hlt : k < m
    · have hnx := HN.out k hlt
      go_wp2_with (go_at_call 8; refine (envKey_any _ (ks k) _ hex).mono ?_; rintro e w' ⟨rfl, rfl⟩)
      go_round
      case rel => exact ⟨k + 1, by omega, by go_num⟩
      case measure => simp [intOf]; omega
    · obtain rfl : k = m := by omega
      have hyx := HY.out
      have hvx := HV.out
      go_wp2_with (go_at_call 8; refine (envKey_any _ (ks k) _ hex).mono ?_; rintro e w' ⟨rfl, rfl⟩)
      go_ret
      exact ⟨rfl, rfl⟩
end Go.Proofs.Qxb6618306a
