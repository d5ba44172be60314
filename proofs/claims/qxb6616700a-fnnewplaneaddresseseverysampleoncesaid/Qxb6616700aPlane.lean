/-
  The walks of newPlane and ZZnewPlane: a plane of w x h zero bytes in a block of its own. By an AI agent.
-/
import Derived.Test.Qxb6616700aRows
import Derived.WalkKit
import Derived.WalkSpells
import Derived.ProofKit
namespace Go.Proofs.Qxb6616700a
open Go.RowKit

theorem info5 : (Try.prog.info? 5).map (fun i => (i.zero, i.size, i.bytes)) = some (some (.int .u8 0), 1, 1) := by kernel_rfl
theorem info3 : (Try.prog.info? 3).map (fun i => (i.zero, i.size, i.bytes)) = some (some (.int .i64 0), 1, 8) := by kernel_rfl

/-- n cells of the value z. -/
def zeros (z : Value) (n : Nat) : Array Value := madeCells #[z] n
theorem zeros_at (z : Value) (n j : Nat) (h : j < n) : (zeros z n)[j]? = some z := by
  have e : (zeros z n).toList = List.replicate n z := toList_madeCells_one z n
  have e2 : (zeros z n) = (List.replicate n z).toArray := by rw [← e]
  rw [e2]
  simp [h]

/-- 'make([]byte, n)'. -/
theorem make_bytes (n : Nat) (hn : n ≤ 65536) (w : World) : (Instr.makeSlice 22 (.int .i64 (n : Int)) (.int .i64 (n : Int))).run Try.prog w =
    .ok (.slice (some ⟨w.heap.size, 0, none⟩) n n) (w.alloc (.cells (zeros (.int .u8 0) n) 5)) := by
  obtain ⟨i, hi, hz0, hz1, hz2⟩ := info_parts info5
  have := run_make (P := Try.prog) w 22 5 i (.int .u8 0) Try.underlying22 hi hz0 .i64 .i64 n n (by omega) (Int.le_refl _) (by rw [hz2]; omega) (by omega)
  rw [hz1] at this
  simpa [zeros, Value.cells] using this

/-- 'make([]int, n)'. -/
theorem make_ints (n : Nat) (hn : n ≤ 65536) (w : World) : (Instr.makeSlice 25 (.int .i64 (n : Int)) (.int .i64 (n : Int))).run Try.prog w =
    .ok (.slice (some ⟨w.heap.size, 0, none⟩) n n) (w.alloc (.cells (zeros (.int .i64 0) n) 3)) := by
  obtain ⟨i, hi, hz0, hz1, hz2⟩ := info_parts info3
  have := run_make (P := Try.prog) w 25 3 i (.int .i64 0) Try.underlying25 hi hz0 .i64 .i64 n n (by omega) (Int.le_refl _) (by rw [hz2]; omega) (by omega)
  rw [hz1] at this
  simpa [zeros, Value.cells] using this

/-- w' is w with new blocks behind it and draws made: nothing old has turned. -/
structure More (w w' : World) : Prop where
  grown : Grown w w'
  below : Below w.heap.size w w'

theorem More.refl (w : World) : More w w := ⟨Grown.refl w, Below.refl _ w⟩
theorem More.alloc {w w' : World} (h : More w w') (c : Array Value) (t : TypeId) : More w (w'.alloc (.cells c t)) :=
  ⟨h.grown.alloc c t, h.below.alloc h.below.size _⟩
theorem More.setCell {w w' : World} (h : More w w') {g j : Nat} (hg : w.heap.size ≤ g) (v : Value) : More w (w'.setCell ⟨g, j, none⟩ v) :=
  ⟨h.grown.setCell hg v, h.below.setCell hg v⟩
theorem More.trans {a b c : World} (h : More a b) (k : More b c) : More a c :=
  ⟨⟨World.keptBut_trans h.grown.1 k.grown.1, fun x => (k.grown.2.1 x).trans (h.grown.2.1 x), Nat.le_trans h.grown.2.2 k.grown.2.2⟩, h.below.trans (k.below.mono h.below.size)⟩
theorem More.drew {a w : World} (h : More a w) : More a w.drew := ⟨h.grown, h.below.drew⟩

/-- Block b holds n zero bytes. -/
structure Zs (w : World) (b n : Nat) : Prop where
  lt : b < w.heap.size
  cell : ∀ j, j < n → w.cell? ⟨b, j, none⟩ = some (.int .u8 0)

theorem Zs.more {w w' : World} {b n : Nat} (h : Zs w b n) (k : More w w') : Zs w' b n :=
  ⟨Nat.lt_of_lt_of_le h.lt k.below.size, fun j hj => (k.below.cell h.lt).trans (h.cell j hj)⟩

theorem zs_of (w : World) (n : Nat) : Zs (w.alloc (.cells (zeros (.int .u8 0) n) 5)) w.heap.size n where
  lt := by simp
  cell := fun j hj => by
    rw [← zeros_at (.int .u8 0) n j hj]
    simp

set_option maxHeartbeats 400000 in
/-- newPlane. -/
theorem newPlane_any (x y : Int) (n : Nat) (w : World) (hn : n ≤ 65536) (hxy : x * y = (n : Int)) :
    Calls Try.prog 15 #[.int .i64 x, .int .i64 y] w fun e w' => ∃ b, e = .returned (.agg #[.slice (some ⟨b, 0, none⟩) n n, .int .i64 x, .int .i64 y, .int .i64 x]) ∧ Zs w' b n ∧ More w w' := by
  have hmk := make_bytes n hn
  go_enter Try.func15, Try.ntmps15
  go_wp2
  refine bodyPost_ret (v := .agg #[.slice (some ⟨w.heap.size + 1, 0, none⟩) n n, .int .i64 x, .int .i64 y, .int .i64 x]) (by simp [results, Try.results15, go_sem]) rfl ⟨w.heap.size + 1, rfl, ?_, ((More.refl w).alloc _ _).alloc _ _⟩
  have := zs_of (w.alloc (.cells #[.slice (some ⟨w.heap.size + 1, 0, none⟩) n n, .int .i64 x, .int .i64 y, .int .i64 x] 41)) n
  simpa using this

set_option maxHeartbeats 400000 in
/-- ZZnewPlane. -/
theorem zzNewPlane_any (x y : Int) (n : Nat) (w : World) (hn : n ≤ 65536) (hxy : x * y = (n : Int)) :
    Calls Try.prog 6 #[.int .i64 x, .int .i64 y] w fun e w' => ∃ b, e = .returned (.tuple #[.slice (some ⟨b, 0, none⟩) n n, .int .i64 x, .int .i64 y, .int .i64 x]) ∧ Zs w' b n ∧ More w w' := by
  have HX : Hid (x * y = (n : Int)) := hxy
  clear hxy
  go_enter Try.func6, Try.ntmps6
  go_wp2_with fail
  refine (newPlane_any x y n _ hn HX.out).mono ?_
  rintro e w1 ⟨b, rfl, hz, hm⟩
  go_wp2
  go_region
  go_wp2
  exact bodyPost_ret (v := .tuple #[.slice (some ⟨b, 0, none⟩) n n, .int .i64 x, .int .i64 y, .int .i64 x]) (by simp [results, Try.results6, go_sem]) rfl ⟨b, rfl, hz.more ((More.refl w1).alloc _ _).drew, (hm.alloc _ _).drew⟩

/-! ### THE HITS: of the n numbers of block g the first c are 1, the others 0. -/
structure Hits (w : World) (g n c : Nat) : Prop where
  lt : g < w.heap.size
  one : ∀ j, j < c → w.cell? ⟨g, j, none⟩ = some (.int .i64 1)
  nul : ∀ j, c ≤ j → j < n → w.cell? ⟨g, j, none⟩ = some (.int .i64 0)
  free : ∀ j, w.frozen? ⟨g, j, none⟩ = false

theorem hits_of (w : World) (n : Nat) : Hits (w.alloc (.cells (zeros (.int .i64 0) n) 3)) w.heap.size n 0 where
  lt := by simp
  one := fun j hj => by omega
  nul := fun j _ hj => by
    rw [← zeros_at (.int .i64 0) n j hj]
    simp
  free := fun j => by
    rw [frozen?_alloc_cells]
    simp [World.frozen?]

theorem Hits.step {w : World} {g n c : Nat} (h : Hits w g n c) (hc : c < n) : Hits (w.setCell ⟨g, c, none⟩ (.int .i64 1)) g n (c + 1) where
  lt := by simpa using h.lt
  one := fun j hj => by
    by_cases e : j = c
    · subst e; exact World.cell?_setCell_same _ _ _ (h.nul j (Nat.le_refl _) hc)
    · rw [World.cell?_setCell_other _ _ _ _ (by intro e2; exact e (by injection e2; omega))]
      exact h.one j (by omega)
  nul := fun j h1 h2 => by
    rw [World.cell?_setCell_other _ _ _ _ (by intro e2; injection e2; omega)]
    exact h.nul j (by omega) h2
  free := fun j => by rw [World.frozen?_setCell]; exact h.free j

theorem Zs.other {w : World} {b n : Nat} (h : Zs w b n) {g j : Nat} (hg : b < g) (v : Value) : Zs (w.setCell ⟨g, j, none⟩ v) b n where
  lt := by simpa using h.lt
  cell := fun i hi => by
    rw [World.cell?_setCell_other _ _ _ _ (by intro e2; injection e2; omega)]
    exact h.cell i hi

/-- What of the next row lies in the plane. -/
theorem row_fits {X Y n k : Nat} (hn : X * Y = n) (hk : k < Y) : k * X + X ≤ n := by
  have h1 : (k + 1) * X ≤ Y * X := Nat.mul_le_mul_right X hk
  rw [Nat.add_mul, Nat.one_mul] at h1
  rw [← hn, Nat.mul_comm X Y]
  exact h1

/-- The size of a plane that the law's tests let by. -/
theorem plane_size (x y : Int) (hx : 0 ≤ x) (hy : 0 ≤ y) (hq : 0 < y → x ≤ 65536 / y) : 0 ≤ x * y ∧ x * y ≤ 65536 := by
  refine ⟨Int.mul_nonneg hx hy, ?_⟩
  by_cases h : 0 < y
  · exact (Int.le_ediv_iff_mul_le h).1 (hq h)
  · have : y = 0 := by omega
    subst this
    simp
end Go.Proofs.Qxb6616700a
