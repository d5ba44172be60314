/-
  The walks of buildEnv, ZZbuildEnv and of the bound on the lengths. By an AI agent.
-/
import Derived.Test.Qxb6618306aPlain
import Derived.Deep.Draws
namespace Go.Proofs.Qxb6618306a
open Go.RowKit

/-- w' is w with new blocks behind it and draws made: nothing old has turned. -/
structure More (w w' : World) : Prop where
  grown : Grown w w'
  below : Below w.heap.size w w'

theorem More.refl (w : World) : More w w := ⟨Grown.refl w, Below.refl _ w⟩
theorem More.alloc {w w' : World} (h : More w w') (c : Array Value) (t : TypeId) : More w (w'.alloc (.cells c t)) :=
  ⟨h.grown.alloc c t, h.below.alloc h.below.size _⟩
theorem More.trans {a b c : World} (h : More a b) (k : More b c) : More a c :=
  ⟨⟨World.keptBut_trans h.grown.1 k.grown.1, fun x => (k.grown.2.1 x).trans (h.grown.2.1 x), Nat.le_trans h.grown.2.2 k.grown.2.2⟩, h.below.trans (k.below.mono h.below.size)⟩
theorem More.drewN {a w : World} (h : More a w) (n : Nat) : More a (w.drewN n) := ⟨h.grown, h.below.trans ⟨rfl, rfl, rfl, Nat.le_refl _, fun _ _ => rfl⟩⟩
theorem More.drew {a w : World} (h : More a w) : More a w.drew := ⟨h.grown, h.below.drew⟩
theorem More.cell {a w : World} (h : More a w) {b j : Nat} (hb : b < a.heap.size) : w.cell? ⟨b, j, none⟩ = a.cell? ⟨b, j, none⟩ := h.below.cell hb

/-- Block b holds the environment of the target o, a. -/
structure Lies (w : World) (b : Nat) (o a : ByteArray) : Prop where
  lt : b < w.heap.size
  cell : ∀ j, j < 9 → w.cell? ⟨b, j, none⟩ = some (.string (es o a j))

theorem Lies.more {w w' : World} {b : Nat} {o a : ByteArray} (h : Lies w b o a) (k : More w w') : Lies w' b o a :=
  ⟨Nat.lt_of_lt_of_le h.lt k.below.size, fun j hj => (k.cell h.lt).trans (h.cell j hj)⟩

/-- The nine cells. -/
def envCells (o a : ByteArray) : Array Value :=
  #[.string (es o a 0), .string (es o a 1), .string (es o a 2), .string (es o a 3), .string (es o a 4), .string (es o a 5), .string (es o a 6), .string (es o a 7), .string (es o a 8)]

theorem envCells_at (o a : ByteArray) : ∀ j, j < 9 → (envCells o a)[j]? = some (.string (es o a j))
  | 0, _ => rfl
  | 1, _ => rfl
  | 2, _ => rfl
  | 3, _ => rfl
  | 4, _ => rfl
  | 5, _ => rfl
  | 6, _ => rfl
  | 7, _ => rfl
  | 8, _ => rfl
  | _ + 9, h => by omega

theorem lies_of (w : World) (o a : ByteArray) : Lies (w.alloc (.cells (envCells o a) 9)) w.heap.size o a where
  lt := by simp
  cell := fun j hj => by
    rw [← envCells_at o a j hj]
    simp

theorem es0 (o a : ByteArray) : ({ data := #[71, 79, 79, 83, 61] } : ByteArray) ++ o = es o a 0 := by
  apply ByteArray.ext
  simp [es, kl, vl, ByteArray.data_append]
theorem es1 (o a : ByteArray) : ({ data := #[71, 79, 65, 82, 67, 72, 61] } : ByteArray) ++ a = es o a 1 := by
  apply ByteArray.ext
  simp [es, kl, vl, ByteArray.data_append]

set_option maxHeartbeats 400000 in
/-- buildEnv: the nine entries, in a new block. -/
theorem buildEnv_any (o a : ByteArray) (w : World) (ho : o.size ≤ 262144) (ha : a.size ≤ 262144) :
    Calls Try.prog 9 #[.agg #[.string o, .string a]] w fun e w' => ∃ b, e = .returned (.slice (some ⟨b, 0, none⟩) 9 9) ∧ Lies w' b o a ∧ More w w' := by
  go_enter Try.func9, Try.ntmps9
  go_wp2
  go_ret
  refine ⟨w.heap.size + 1, rfl, ?_, ((More.refl w).alloc _ _).alloc _ _⟩
  rw [es0 o a, es1 o a]
  have := lies_of (w.alloc (.cells #[.string o, .string a] 30)) o a
  have h2 : Lies ((w.alloc (.cells #[.string o, .string a] 30)).alloc (.cells (envCells o a) 9)) (w.heap.size + 1) o a := by simpa using this
  exact h2

set_option maxHeartbeats 400000 in
theorem zzBuildEnv_any (o a : ByteArray) (w : World) (ho : o.size ≤ 262144) (ha : a.size ≤ 262144) :
    Calls Try.prog 5 #[.string o, .string a] w fun e w' => ∃ b, e = .returned (.slice (some ⟨b, 0, none⟩) 9 9) ∧ Lies w' b o a ∧ More w w' := by
  go_enter Try.func5, Try.ntmps5
  go_wp2_with (go_at_call 9; refine (buildEnv_any o a _ ho ha).mono ?_; rintro e w' ⟨b, rfl, hl, hm⟩)
  go_ret
  exact ⟨b, rfl, hl, hm⟩

set_option maxHeartbeats 400000 in
theorem zzBytes_any (a b c d : ByteArray) (w : World) (ha : a.size ≤ maxLen) (hb : b.size ≤ maxLen) (hc : c.size ≤ maxLen) (hd : d.size ≤ maxLen) :
    Calls Try.prog 4 #[.string a, .string b, .string c, .string d] w fun e w' => ∃ t : Bool, e = .returned (.bool t) ∧ w = w' := by
  unfold maxLen at ha hb hc hd
  go_enter Try.func4, Try.ntmps4
  go_wp2
  all_goals (go_ret; exact ⟨_, rfl, rfl⟩)
end Go.Proofs.Qxb6618306a
