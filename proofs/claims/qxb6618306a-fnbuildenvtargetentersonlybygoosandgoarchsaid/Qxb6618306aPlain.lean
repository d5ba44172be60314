/-
  The plain law: the nine entries of the build environment as lists of bytes; each is a key without '=', then '=', then a value. No Go in sight. By an AI agent.
-/
import Derived.Test.Qxb6618306aEnv
namespace Go.Proofs.Qxb6618306a
open Go.RowKit

/-- The nine keys. -/
def kl : Nat → List UInt8
  | 0 => [71, 79, 79, 83]
  | 1 => [71, 79, 65, 82, 67, 72]
  | 2 => [67, 71, 79, 95, 69, 78, 65, 66, 76, 69, 68]
  | 3 => [71, 79, 65, 77, 68, 54, 52]
  | 4 => [71, 79, 65, 82, 77, 54, 52]
  | 5 => [71, 79, 70, 76, 65, 71, 83]
  | 6 => [71, 79, 70, 73, 80, 83, 49, 52, 48]
  | 7 => [71, 79, 95, 69, 88, 84, 76, 73, 78, 75, 95, 69, 78, 65, 66, 76, 69, 68]
  | _ => [71, 79, 87, 79, 82, 75]

/-- The nine values, of a target o, a. -/
def vl (o a : ByteArray) : Nat → List UInt8
  | 0 => o.data.toList
  | 1 => a.data.toList
  | 2 => [48]
  | 3 => [118, 49]
  | 4 => [118, 56, 46, 48]
  | 5 => [45, 109, 111, 100, 61, 114, 101, 97, 100, 111, 110, 108, 121]
  | 6 => [111, 102, 102]
  | 7 => [48]
  | _ => [111, 102, 102]

def ks (j : Nat) : ByteArray := ⟨(kl j).toArray⟩
def es (o a : ByteArray) (j : Nat) : ByteArray := ⟨(kl j ++ 61 :: vl o a j).toArray⟩

theorem ks_list (j : Nat) : (ks j).toList = kl j := by unfold ks; simp
theorem es_list (o a : ByteArray) (j : Nat) : (es o a j).toList = kl j ++ 61 :: vl o a j := by unfold es; simp
theorem ks_size (j : Nat) : (ks j).size = (kl j).length := by simp [ks, ByteArray.size]
theorem es_size (o a : ByteArray) (j : Nat) : (es o a j).size = (kl j).length + ((vl o a j).length + 1) := by simp [es, ByteArray.size]

theorem kl_plain (j : Nat) : ∀ c ∈ kl j, c.toNat ≠ 61 := by
  unfold kl
  split <;> decide

theorem kl_some (j : Nat) : 1 ≤ (kl j).length := by unfold kl; split <;> decide
theorem kl_short (j : Nat) : (kl j).length ≤ 18 := by unfold kl; split <;> decide

theorem vl_short (o a : ByteArray) (ho : o.size ≤ 262144) (ha : a.size ≤ 262144) (j : Nat) : (vl o a j).length ≤ 262144 := by
  unfold vl
  have h1 : o.data.toList.length = o.size := rfl
  have h2 : a.data.toList.length = a.size := rfl
  split <;> first | (rw [h1]; exact ho) | (rw [h2]; exact ha) | decide

theorem entry_of (kx vx : List UInt8) (hk : ∀ c ∈ kx, c.toNat ≠ 61) (hs : kx.length + (vx.length + 1) ≤ maxLen) :
    Entry ⟨(kx ++ 61 :: vx).toArray⟩ ⟨kx.toArray⟩ where
  size := by simpa [ByteArray.size] using hs
  place := {
    lt := by simp [ByteArray.size]
    eq := by
      intro h
      have e : (ByteArray.mk (kx ++ 61 :: vx).toArray)[(ByteArray.mk kx.toArray).size] = (kx ++ 61 :: vx)[kx.length]'(by simp) := by
        simp only [ByteArray.getElem_eq_getElem_data, List.getElem_toArray]
        rfl
      rw [e]
      simp
    ne := by
      intro j h hj
      have hj' : j < kx.length := by simpa [ByteArray.size] using hj
      have e : (ByteArray.mk (kx ++ 61 :: vx).toArray)[j] = kx[j] := by
        simp [ByteArray.getElem_eq_getElem_data, hj']
      rw [e]
      exact hk _ (List.getElem_mem _) }
  key := by
    rw [ByteArray.extract_mk]
    simp [ByteArray.size]

theorem entry (o a : ByteArray) (ho : o.size ≤ 262144) (ha : a.size ≤ 262144) (j : Nat) : Entry (es o a j) (ks j) :=
  entry_of _ _ (kl_plain j) (by have := kl_short j; have := vl_short o a ho ha j; unfold maxLen; omega)

/-- No two of the nine keys are the same. -/
theorem kl_apart : ∀ i, i < 9 → ∀ j, j < i → (kl j == kl i) = false := by decide
theorem ks_apart (i j : Nat) (hi : i < 9) (hj : j < i) : ((ks j).toList == (ks i).toList) = false := by
  rw [ks_list, ks_list]; exact kl_apart i hi j hj

/-- What stands behind an entry's '=' is its value. -/
theorem val_of (kx vx : List UInt8) : ((ByteArray.mk (kx ++ 61 :: vx).toArray).extract (kx.length + 1) (ByteArray.mk (kx ++ 61 :: vx).toArray).size).toList = vx := by
  rw [ByteArray.extract_mk, ByteArray.toList_mk]
  rw [List.drop_append]
  have e1 : List.drop (kx.length + 1) kx = [] := List.drop_eq_nil_of_le (by omega)
  have e2 : kx.length + 1 - kx.length = 1 := by omega
  have e3 : (ByteArray.mk (kx ++ 61 :: vx).toArray).size - (kx.length + 1) = vx.length := by
    have : (ByteArray.mk (kx ++ 61 :: vx).toArray).size = kx.length + (vx.length + 1) := by simp [ByteArray.size]
    omega
  rw [e1, e2, e3]
  simp

theorem es_val (o a : ByteArray) (j n : Nat) (hn : n = (kl j).length + 1) : ((es o a j).extract n (es o a j).size).toList = vl o a j := by
  subst hn; exact val_of _ _

/-- From the third on an entry is the same for every target, and its value is not empty. -/
theorem vl_same (o a o' a' : ByteArray) : ∀ j, 2 ≤ j → vl o a j = vl o' a' j
  | 0, h => by omega
  | 1, h => by omega
  | 2, _ => rfl
  | 3, _ => rfl
  | 4, _ => rfl
  | 5, _ => rfl
  | 6, _ => rfl
  | 7, _ => rfl
  | _ + 8, _ => rfl
theorem vl_some (o a : ByteArray) : ∀ j, 2 ≤ j → 1 ≤ (vl o a j).length
  | 0, h => by omega
  | 1, h => by omega
  | 2, _ => by simp [vl]
  | 3, _ => by simp [vl]
  | 4, _ => by simp [vl]
  | 5, _ => by simp [vl]
  | 6, _ => by simp [vl]
  | 7, _ => by simp [vl]
  | _ + 8, _ => by simp [vl]
theorem es_same (o a o' a' : ByteArray) (j : Nat) (h : 2 ≤ j) : es o a j = es o' a' j := by
  unfold es; rw [vl_same o a o' a' j h]
theorem kl_other9 : ∀ j, j < 9 → 2 ≤ j → (kl j == [71, 79, 79, 83]) = false ∧ (kl j == [71, 79, 65, 82, 67, 72]) = false := by decide
theorem ks_other (j : Nat) (h : 2 ≤ j) (h9 : j < 9) : ((ks j).toList == [71, 79, 79, 83]) = false ∧ ((ks j).toList == [71, 79, 65, 82, 67, 72]) = false := by
  rw [ks_list]; exact kl_other9 j h9 h
end Go.Proofs.Qxb6618306a
