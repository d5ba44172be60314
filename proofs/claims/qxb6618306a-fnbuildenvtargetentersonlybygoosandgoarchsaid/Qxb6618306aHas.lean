/-
  envWellFormedB1 and envHasB1 at the environment that buildEnv has laid. By an AI agent.
-/
import Derived.Test.Qxb6618306aBuild
namespace Go.Proofs.Qxb6618306a
open Go.RowKit

theorem wf_of {w : World} {b : Nat} {o a : ByteArray} (ho : o.size ≤ 262144) (ha : a.size ≤ 262144) (h : Lies w b o a) :
    Calls Try.prog 6 #[.slice (some ⟨b, 0, none⟩) 9 9] w fun e w' => e = .returned (.bool true) ∧ w = w' :=
  wellFormed_any b 9 9 (es o a) ks w (by omega) h.cell (fun j _ => entry o a ho ha j) (fun j _ => by rw [ks_size]; exact kl_some j) (fun i j hi hj => ks_apart i j hi hj)

theorem has_of {w : World} {b : Nat} {o a : ByteArray} (m : Nat) (key v : ByteArray) (ho : o.size ≤ 262144) (ha : a.size ≤ 262144) (h : Lies w b o a) (hm : m < 9)
    (hk : key = ks m) (hv : v.toList = vl o a m) :
    Calls Try.prog 7 #[.slice (some ⟨b, 0, none⟩) 9 9, .string key, .string v] w fun e w' => e = .returned (.bool true) ∧ w = w' := by
  subst hk
  refine has_any b 9 9 m (es o a) ks (ks m) v w (by omega) hm h.cell (fun j _ => entry o a ho ha j) (fun j hj => ks_apart m j hm hj) (by simp) ?_ ?_
  · rw [ks_size, es_size]; omega
  · rw [hv, es_val o a m _ (by rw [ks_size])]; simp

theorem has_os {w : World} {b : Nat} {o a : ByteArray} (ho : o.size ≤ 262144) (ha : a.size ≤ 262144) (h : Lies w b o a) :
    Calls Try.prog 7 #[.slice (some ⟨b, 0, none⟩) 9 9, .string { data := #[71, 79, 79, 83] }, .string o] w fun e w' => e = .returned (.bool true) ∧ w = w' :=
  has_of 0 _ _ ho ha h (by omega) rfl (ByteArray.toList_eq o)
theorem has_arch {w : World} {b : Nat} {o a : ByteArray} (ho : o.size ≤ 262144) (ha : a.size ≤ 262144) (h : Lies w b o a) :
    Calls Try.prog 7 #[.slice (some ⟨b, 0, none⟩) 9 9, .string { data := #[71, 79, 65, 82, 67, 72] }, .string a] w fun e w' => e = .returned (.bool true) ∧ w = w' :=
  has_of 1 _ _ ho ha h (by omega) rfl (ByteArray.toList_eq a)
theorem has_cgo {w : World} {b : Nat} {o a : ByteArray} (ho : o.size ≤ 262144) (ha : a.size ≤ 262144) (h : Lies w b o a) :
    Calls Try.prog 7 #[.slice (some ⟨b, 0, none⟩) 9 9, .string { data := #[67, 71, 79, 95, 69, 78, 65, 66, 76, 69, 68] }, .string { data := #[48] }] w fun e w' => e = .returned (.bool true) ∧ w = w' :=
  has_of 2 _ _ ho ha h (by omega) rfl (ByteArray.toList_eq _)
theorem has_work {w : World} {b : Nat} {o a : ByteArray} (ho : o.size ≤ 262144) (ha : a.size ≤ 262144) (h : Lies w b o a) :
    Calls Try.prog 7 #[.slice (some ⟨b, 0, none⟩) 9 9, .string { data := #[71, 79, 87, 79, 82, 75] }, .string { data := #[111, 102, 102] }] w fun e w' => e = .returned (.bool true) ∧ w = w' :=
  has_of 8 _ _ ho ha h (by omega) rfl (ByteArray.toList_eq _)
end Go.Proofs.Qxb6618306a
