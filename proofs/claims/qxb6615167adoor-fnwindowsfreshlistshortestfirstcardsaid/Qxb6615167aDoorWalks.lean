/-
  The walks: slices.Clone at []Window, Windows, zzIsWindowList, the bound on the length. By an AI agent.
-/
import Derived.Test.Qxb6615167aDoorRows
import Derived.WalkKit
import Derived.WalkSpells
import Derived.ProofKit
namespace Go.Proofs.Qxb6615167aDoor
open Go.RowKit

/-- The six windows, shortest first. -/
def wl : List ByteArray := [{ data := #[109, 105, 110, 117, 116, 101] }, { data := #[104, 111, 117, 114] }, { data := #[100, 97, 121] }, { data := #[119, 101, 101, 107] }, { data := #[109, 111, 110, 116, 104] }, { data := #[116, 111, 116, 97, 108] }]
def wn (j : Nat) : ByteArray := wl.getD j ByteArray.empty

theorem info26 : (Tryd.prog.info? 26).map (fun i => (i.zero, i.size, i.bytes)) = some (some (.string { data := #[] }), 1, 16) := by kernel_rfl

/-- Block g holds six strings, and may be written. -/
structure Row (w : World) (g : Nat) (f : Nat → ByteArray) : Prop where
  lt : g < w.heap.size
  cell : ∀ j, j < 6 → w.cell? ⟨g, j, none⟩ = some (.string (f j))
  free : ∀ j, w.frozen? ⟨g, j, none⟩ = false

theorem row_of_owns {w : World} {base : Nat} {v : Value} (h : w.ownsRow base 26 1 v 6 (wl.map Value.string)) :
    ∃ g cap, v = .slice (some ⟨g, 0, none⟩) 6 cap ∧ base ≤ g ∧ Row w g wn := by
  have h2 := h
  rcases h.2 with ⟨_, h6⟩ | ⟨g, cap, cur, rfl, hb, hg, _⟩
  · omega
  · refine ⟨g, cap, rfl, hb, (Array.getElem?_eq_some_iff.1 hg).1, fun j hj => ?_, fun j => h2.frozenAt j⟩
    rw [h2.cellAt j (by omega)]
    simp [wn, List.getD, List.getElem?_eq_getElem (show j < wl.length from hj)]

set_option maxHeartbeats 1000000 in
set_option maxRecDepth 100000 in
/-- slices.Clone of the six windows: a list of its own. -/
theorem clone_any (b off c : Nat) (w : World) (hc : ∀ j, j < 6 → w.cell? ⟨b, off + j, none⟩ = some (.string (wn j))) :
    Calls Tryd.prog 7 #[.slice (some ⟨b, off, none⟩) 6 c] w fun e w' => ∃ g cap, e = .returned (.slice (some ⟨g, 0, none⟩) 6 cap) ∧ w.heap.size ≤ g ∧ Row w' g wn ∧ Below w.heap.size w w' := by
  obtain ⟨i0, hi, hz0, hz1, hz2⟩ := info_parts info26
  have q23 : ∀ (w : World) (a : Option Addr) (n c n' c' : Nat), (binOp .eql 23 (.slice a n c) (.slice none n' c')).run Tryd.prog w = .ok (.bool a.isNone) w := fun w a n c n' c' => Lib.run_eql_slice_nil w _ _ a n c n' c' Tryd.underlying23
  have A : Hid (∀ j, j < 6 → w.cell? ⟨b, off + j, none⟩ = some (.string (wn j))) := hc
  clear hc
  go_enter Tryd.func7, Tryd.ntmps7
  go_wp2_with (at_builtin; refine wpList_append_own _ rfl _ _ 23 rfl w.heap.size 26 i0 (.string { data := #[] }) 1 16 Tryd.underlying23 hi hz0 hz1 hz2 rfl (by decide) _ _ _ rfl (World.ownsRow_made w #[] 0 (Nat.le_refl _) (Nat.zero_le _) rfl) ⟨b, off, none⟩ 6 c (wl.map Value.string) rfl ?qc1 ?qc2 ?qc3 ?qc4 ?qc5 ?qc6 ?_)
  case qc1 => simp [wl]
  case qc2 =>
    intro j u hj
    have hjn : j < 6 := by
      have := (List.getElem?_eq_some_iff.1 hj).1
      simpa [wl] using this
    rw [Addr.add_lit]
    refine Lib.cell?_alloc_some _ ?_
    rw [A.out j hjn, ← hj]
    simp [wn, List.getD, List.getElem?_eq_getElem (show j < wl.length from hjn)]
  case qc3 => intro u hu; obtain ⟨x, _, rfl⟩ := List.mem_map.1 hu; rfl
  case qc4 => unfold maxLen; omega
  case qc5 => omega
  case qc6 => simp
  intro v' w1 hown hgrow hnil
  obtain ⟨g, cap, hv, hg, hrow⟩ := row_of_owns (by simpa using hown)
  rw [hv]
  go_wp2
  go_ret
  refine ⟨g, cap, rfl, hg, hrow, ?_⟩
  exact ((Below.refl _ w).alloc (Nat.le_refl _) _).grown hgrow (by simp) (by intro k hk; simp [Value.ownBlock] at hk; omega)

set_option maxHeartbeats 400000 in
/-- The package-level variable holds a list of the six windows (in the block b, below the heap's old size). -/
theorem windows_any (b off c : Nat) (w : World) (hv : w.cell? ⟨0, 0, none⟩ = some (.slice (some ⟨b, off, none⟩) 6 c)) (hc : ∀ j, j < 6 → w.cell? ⟨b, off + j, none⟩ = some (.string (wn j))) :
    Calls Tryd.prog 5 #[] w fun e w' => ∃ g cap, e = .returned (.slice (some ⟨g, 0, none⟩) 6 cap) ∧ w.heap.size ≤ g ∧ Row w' g wn ∧ Below w.heap.size w w' := by
  have A : Hid (∀ j, j < 6 → w.cell? ⟨b, off + j, none⟩ = some (.string (wn j))) := hc
  clear hc
  go_enter Tryd.func5, Tryd.ntmps5
  go_wp2_with (go_at_call 7; refine (clone_any b off c _ A.out).mono ?_; rintro e w' ⟨g, cap, rfl, hg, hrow, hbel⟩)
  go_ret
  exact ⟨g, cap, rfl, hg, hrow, hbel⟩

set_option maxHeartbeats 400000 in
/-- zzIsWindowList of such a list: true. -/
theorem isList_any (g cap : Nat) (w : World) (h : Row w g wn) :
    Calls Tryd.prog 6 #[.slice (some ⟨g, 0, none⟩) 6 cap] w fun e w' => e = .returned (.bool true) ∧ w = w' := by
  have c0 : w.cell? ⟨g, 0, none⟩ = some (.string { data := #[109, 105, 110, 117, 116, 101] }) := h.cell 0 (by omega)
  have c1 : w.cell? ⟨g, 1, none⟩ = some (.string { data := #[104, 111, 117, 114] }) := h.cell 1 (by omega)
  have c2 : w.cell? ⟨g, 2, none⟩ = some (.string { data := #[100, 97, 121] }) := h.cell 2 (by omega)
  have c3 : w.cell? ⟨g, 3, none⟩ = some (.string { data := #[119, 101, 101, 107] }) := h.cell 3 (by omega)
  have c4 : w.cell? ⟨g, 4, none⟩ = some (.string { data := #[109, 111, 110, 116, 104] }) := h.cell 4 (by omega)
  have c5 : w.cell? ⟨g, 5, none⟩ = some (.string { data := #[116, 111, 116, 97, 108] }) := h.cell 5 (by omega)
  go_enter Tryd.func6, Tryd.ntmps6
  go_wp2
  go_ret
  exact ⟨rfl, rfl⟩

set_option maxHeartbeats 400000 in
theorem zzBytes_any (a : ByteArray) (w : World) (ha : a.size ≤ maxLen) :
    Calls Tryd.prog 4 #[.string a] w fun e w' => ∃ t : Bool, e = .returned (.bool t) ∧ w = w' := by
  unfold maxLen at ha
  go_enter Tryd.func4, Tryd.ntmps4
  go_wp2
  all_goals (go_ret; exact ⟨_, rfl, rfl⟩)

/-- Of the six strings of block g the first k are s. -/
structure Upto (w : World) (g k : Nat) (s : ByteArray) : Prop where
  lt : g < w.heap.size
  cell : ∀ j, j < k → w.cell? ⟨g, j, none⟩ = some (.string s)
  there : ∀ j, j < 6 → ∃ v, w.cell? ⟨g, j, none⟩ = some (.string v)
  free : ∀ j, w.frozen? ⟨g, j, none⟩ = false

theorem Row.upto {w : World} {g : Nat} {f : Nat → ByteArray} (h : Row w g f) (s : ByteArray) : Upto w g 0 s :=
  ⟨h.lt, fun j hj => by omega, fun j hj => ⟨_, h.cell j hj⟩, h.free⟩

theorem Upto.step {w : World} {g k : Nat} {s : ByteArray} (h : Upto w g k s) (hk : k < 6) : Upto (w.setCell ⟨g, k, none⟩ (.string s)) g (k + 1) s where
  lt := by simpa using h.lt
  cell := fun j hj => by
    obtain ⟨v, hv⟩ := h.there k hk
    by_cases e : j = k
    · subst e; exact World.cell?_setCell_same _ _ _ hv
    · rw [World.cell?_setCell_other _ _ _ _ (by intro e2; exact e (by injection e2; omega))]
      exact h.cell j (by omega)
  there := fun j hj => by
    obtain ⟨v, hv⟩ := h.there k hk
    by_cases e : j = k
    · subst e; exact ⟨_, World.cell?_setCell_same _ _ _ hv⟩
    · rw [World.cell?_setCell_other _ _ _ _ (by intro e2; exact e (by injection e2; omega))]
      exact h.there j hj
  free := fun j => by rw [World.frozen?_setCell]; exact h.free j

theorem Upto.below {w w' : World} {g k : Nat} {s : ByteArray} (h : Upto w g k s) (hb : Below w.heap.size w w') : Upto w' g k s :=
  ⟨Nat.lt_of_lt_of_le h.lt hb.size, fun j hj => (hb.cell h.lt).trans (h.cell j hj), fun j hj => by obtain ⟨v, hv⟩ := h.there j hj; exact ⟨v, (hb.cell h.lt).trans hv⟩, fun j => (hb.frozen h.lt).trans (h.free j)⟩

set_option maxHeartbeats 1000000 in
theorem law_any (a0 : ByteArray) (b off c : Nat) (w : World) (w0 : a0.size ≤ maxLen) (hv : w.cell? ⟨0, 0, none⟩ = some (.slice (some ⟨b, off, none⟩) 6 c))
    (hc : ∀ j, j < 6 → w.cell? ⟨b, off + j, none⟩ = some (.string (wn j))) :
    Calls Tryd.prog 3 #[.string a0] w fun e w' => e = .returned (.bool true) ∧ Below w.heap.size w w' := by
  have hb0 : 0 < w.heap.size := World.block_lt_of_cell? w _ hv
  have hbb : b < w.heap.size := World.block_lt_of_cell? w _ (hc 0 (by omega))
  have HV : Hid (w.cell? ⟨0, 0, none⟩ = some (.slice (some ⟨b, off, none⟩) 6 c)) := hv
  have HC : Hid (∀ j, j < 6 → w.cell? ⟨b, off + j, none⟩ = some (.string (wn j))) := hc
  clear hv hc
  by_cases h0 : (1048576 : Int) < (a0.size : Int)
  · go_enter Tryd.func3, Tryd.ntmps3
    go_wp2_with fail
    refine (zzBytes_any a0 _ w0).mono ?_
    rintro e w' ⟨t, rfl, rfl⟩
    cases t
    all_goals
      go_wp2
      go_ret
      exact ⟨rfl, Below.refl _ _⟩
  go_enter Tryd.func3, Tryd.ntmps3
  go_wp2_with fail
  refine (zzBytes_any a0 _ w0).mono ?_
  rintro e w' ⟨t, rfl, rfl⟩
  cases t
  · go_wp2
    go_ret
    exact ⟨rfl, Below.refl _ _⟩
  go_wp2_with fail
  refine (windows_any b off c _ HV.out HC.out).mono ?_
  rintro e w1 ⟨g, cap, rfl, hg, hrow, hbel⟩
  go_wp2_with fail
  refine (isList_any g cap _ hrow).mono ?_
  rintro e w' ⟨rfl, rfl⟩
  go_wp2_with fail
  have U := hrow.upto a0
  clear h0 hrow
  go_loopw [4] (fun i wr => ∃ k : Nat, k ≤ 6 ∧ i = .int .i64 k ∧ Upto wr g k a0 ∧ Below w.heap.size w wr) (fun i _ => 6 - (intOf i).toNat)
  case atStart => exact ⟨0, Nat.zero_le _, rfl, U, hbel⟩
  case round =>
    obtain ⟨k, hk, rfl, ur, br⟩ := hrel
    clear U hbel
    by_cases hlt : k < 6
    · obtain ⟨v, hcv⟩ := ur.there k hlt
      have hfz := ur.free k
      go_wp2
      go_roundw
      case rel => exact ⟨k + 1, by omega, by go_num, ur.step hlt, br.setCell hg _⟩
      case measure => simp [intOf]; omega
    · obtain rfl : k = 6 := by omega
      have hv' := (br.cell (p := ⟨0, 0, none⟩) hb0).trans HV.out
      have hc' : ∀ j, j < 6 → wr.cell? ⟨b, off + j, none⟩ = some (.string (wn j)) := fun j hj => (br.cell (p := ⟨b, off + j, none⟩) hbb).trans (HC.out j hj)
      have HC' : Hid (∀ j, j < 6 → wr.cell? ⟨b, off + j, none⟩ = some (.string (wn j))) := hc'
      have HV' : Hid (wr.cell? ⟨0, 0, none⟩ = some (.slice (some ⟨b, off, none⟩) 6 c)) := hv'
      clear hc' hv'
      go_wp2_with fail
      refine (windows_any b off c _ HV'.out HC'.out).mono ?_
      rintro e w2 ⟨g2, cap2, rfl, hg2, hrow2, hbel2⟩
      have up2 := ur.below hbel2
      have bel2 := br.trans (hbel2.mono br.size)
      clear ur br hbel2 HC' HV'
      go_wp2_with fail
      refine (isList_any g2 cap2 _ hrow2).mono ?_
      rintro e w' ⟨rfl, rfl⟩
      clear hrow2
      go_wp2_with fail
      go_loop [6] (fun i => ∃ m : Nat, m ≤ 6 ∧ i = .int .i64 m) (fun i => 6 - (intOf i).toNat)
      case atStart => exact ⟨0, Nat.zero_le _, rfl⟩
      case round =>
        obtain ⟨m, hm, rfl⟩ := hrel
        by_cases hlt2 : m < 6
        · have hcm := up2.cell m hlt2
          go_wp2
          go_round
          case rel => exact ⟨m + 1, by omega, by go_num⟩
          case measure => simp [intOf]; omega
        · go_wp2
          go_ret
          exact ⟨rfl, bel2⟩
end Go.Proofs.Qxb6615167aDoor
