import Derived.Test.Qxb6612291aClone
import Derived.StillTactics
import Derived.OwnWalk
import Derived.OneCell
import Derived.Laws.Pointers
import Derived.RegionTactic
import Derived.BigRegion
import Derived.Deep.QuietTactic
import Derived.BigQuiet
import Derived.WalkSmall
namespace Go.Proofs.Qxb6612291a
open Go.ChangeShapes Go.WideShapes Go.ChangeAt Go.RowKit
set_option linter.unusedVariables false

set_option maxHeartbeats 400000 in
theorem bytes12_ok (a0 : Option Addr) (n0 c0 : Nat) (i j : Int) (h : n0 ≤ 1048576) (w : World) :
    Calls Try.prog 12 #[.slice a0 n0 c0, .int .i64 i, .int .i64 j] w fun e w' => e = .returned (.bool true) ∧ w' = w := by
  have h0 : ¬ (1048576 : Int) < (n0 : Int) := by omega
  go_enter Try.func12, Try.ntmps12
  go_wp2
  go_ret
  exact ⟨rfl, rfl⟩

set_option maxHeartbeats 400000 in
theorem bytes12_no (a0 : Option Addr) (n0 c0 : Nat) (i j : Int) (m0 : n0 ≤ maxLen) (h : ¬ n0 ≤ 1048576) (w : World) :
    Calls Try.prog 12 #[.slice a0 n0 c0, .int .i64 i, .int .i64 j] w fun e w' => e = .returned (.bool false) ∧ w' = w := by
  unfold maxLen at m0
  have h0 : (1048576 : Int) < (n0 : Int) := by omega
  go_enter Try.func12, Try.ntmps12
  go_wp2
  go_ret
  exact ⟨rfl, rfl⟩

set_option maxHeartbeats 800000 in
theorem swap21 (g n cap i j : Nat) (x y : Int) (w : World) (hi : i < n) (hj : j < n)
    (ci : w.cell? ⟨g, i, none⟩ = some (.int .i64 x)) (cj : w.cell? ⟨g, j, none⟩ = some (.int .i64 y)) (fi : w.frozen? ⟨g, i, none⟩ = false) (fj : w.frozen? ⟨g, j, none⟩ = false) :
    Calls Try.prog 21 #[.slice (some ⟨g, 0, none⟩) n cap, .int .i64 i, .int .i64 j] w fun e w' => e = .returned (.tuple #[]) ∧ ∃ nq, w' = ((w.setCell ⟨g, i, none⟩ (.int .i64 y)).setCell ⟨g, j, none⟩ (.int .i64 x)).drewN nq := by
  have hiI : (i : Int) < (n : Int) := by omega
  have hjI : (j : Int) < (n : Int) := by omega
  obtain ⟨v', hv'⟩ := cell?_setCell_some (w := w) (p := ⟨g, i, none⟩) (x := .int .i64 y) (q := ⟨g, j, none⟩) (v := .int .i64 y) cj
  go_enter Try.func21, Try.ntmps21
  go_wp2
  go_region
  all_goals (go_end0; exact ⟨rfl, 1, rfl⟩)

/-- The list behind the exchange. -/
def swapped (zs : List Int) (i j : Nat) : List Int := (zs.set i (zs.getD j 0)).set j (zs.getD i 0)
theorem swapped_length (zs : List Int) (i j : Nat) : (swapped zs i j).length = zs.length := by simp [swapped]
theorem swapped_at (zs : List Int) (i j k : Nat) (hi : i < zs.length) (hj : j < zs.length) (hk : k < zs.length) :
    (swapped zs i j).getD k 0 = if k = j then zs.getD i 0 else if k = i then zs.getD j 0 else zs.getD k 0 := by
  unfold swapped
  simp only [List.getD_eq_getElem?_getD, List.getElem?_set]
  by_cases h1 : j = k
  · subst h1; simp [hj]
  · by_cases h2 : i = k
    · subst h2; simp [h1, hi]; intro e; exact absurd e.symm h1
    · simp [h1, h2]
      rw [if_neg (fun e => h1 e.symm), if_neg (fun e => h2 e.symm)]

theorem map_at (zs : List Int) (k : Nat) (hk : k < zs.length) : (zs.map (Value.int .i64))[k]? = some (.int .i64 (zs.getD k 0)) := by
  simp [List.getElem?_eq_getElem hk]

set_option maxHeartbeats 400000 in
theorem swap14 (base g n cap i j : Nat) (zs : List Int) (w : World) (hz : zs.length = n) (hi : i < n) (hj : j < n) (hbg : base ≤ g)
    (hown : w.ownsRow base 3 1 (.slice (some ⟨g, 0, none⟩) n cap) n (zs.map (Value.int .i64))) :
    Calls Try.prog 14 #[.slice (some ⟨g, 0, none⟩) n cap, .int .i64 i, .int .i64 j] w fun e w' => e = .returned (.tuple #[]) ∧
      w'.ownsRow base 3 1 (.slice (some ⟨g, 0, none⟩) n cap) n ((swapped zs i j).map (Value.int .i64)) ∧ Below base w w' := by
  have ci := hown.cellAt i (by omega)
  rw [map_at zs i (by omega)] at ci
  have cj := hown.cellAt j (by omega)
  rw [map_at zs j (by omega)] at cj
  have K := swap21 g n cap i j (zs.getD i 0) (zs.getD j 0) w hi hj ci cj (hown.frozenAt i) (hown.frozenAt j)
  have R1 : Hid (((w.setCell ⟨g, i, none⟩ (.int .i64 (zs.getD j 0))).setCell ⟨g, j, none⟩ (.int .i64 (zs.getD i 0))).ownsRow base 3 1 (.slice (some ⟨g, 0, none⟩) n cap) n ((swapped zs i j).map (Value.int .i64))) := by
    have h1 := ((hown.stored i (.int .i64 (zs.getD j 0))).1.stored j (.int .i64 (zs.getD i 0))).1
    unfold swapped
    rw [List.map_set, List.map_set]
    exact h1
  have R2 : Hid (Below base w ((w.setCell ⟨g, i, none⟩ (.int .i64 (zs.getD j 0))).setCell ⟨g, j, none⟩ (.int .i64 (zs.getD i 0)))) :=
    ((Below.refl base w).setCell (p := ⟨g, i, none⟩) hbg _).setCell (p := ⟨g, j, none⟩) hbg _
  obtain ⟨x, hx⟩ : ∃ x, x = zs.getD i 0 := ⟨_, rfl⟩
  obtain ⟨y, hy⟩ : ∃ y, y = zs.getD j 0 := ⟨_, rfl⟩
  rw [← hx, ← hy] at K R1 R2
  clear ci cj hown hx hy
  go_enter Try.func14, Try.ntmps14
  go_wp2_with fail
  refine K.mono ?_
  rintro e w' ⟨rfl, nq, rfl⟩
  clear K
  go_wp2
  go_end0
  exact ⟨rfl, R1.out, below_drewN R2.out _⟩

set_option maxHeartbeats 800000 in
/-- zzEqualInts at two slices that hold the same numbers. -/
theorem equal15 (base base2 g g2 n cap cap2 : Nat) (zs : List Int) (w : World) (hz : zs.length = n) (hn : n ≤ 131072)
    (h1 : w.ownsRow base 3 1 (.slice (some ⟨g, 0, none⟩) n cap) n (zs.map (Value.int .i64))) (h2 : w.ownsRow base2 3 1 (.slice (some ⟨g2, 0, none⟩) n cap2) n (zs.map (Value.int .i64))) :
    Calls Try.prog 15 #[.slice (some ⟨g, 0, none⟩) n cap, .slice (some ⟨g2, 0, none⟩) n cap2] w fun e w' => e = .returned (.bool true) ∧ ∃ nq, w' = w.drewN nq := by
  have C1 : Hid (∀ k, k < n → w.cell? ⟨g, k, none⟩ = some (.int .i64 (zs.getD k 0))) := fun k hk => by rw [h1.cellAt k (by omega), map_at zs k (by omega)]
  have C2 : Hid (∀ k, k < n → w.cell? ⟨g2, k, none⟩ = some (.int .i64 (zs.getD k 0))) := fun k hk => by rw [h2.cellAt k (by omega), map_at zs k (by omega)]
  clear h1 h2
  go_enter Try.func15, Try.ntmps15
  go_wp2
  go_loopw [5] (fun i w2 => ∃ j : Nat, j ≤ n ∧ i = .int .i64 j ∧ ∃ nq, w2 = w.drewN nq) (fun i _ => n - (intOf i).toNat)
  case atStart => exact ⟨0, Nat.zero_le _, rfl, 0, by rfl⟩
  case round =>
    obtain ⟨j, hj, rfl, nq0, rfl⟩ := hrel
    by_cases hjt : j < n
    · have c1 := C1.out j hjt
      have c2 := C2.out j hjt
      obtain ⟨z, hz'⟩ : ∃ z, z = zs.getD j 0 := ⟨_, rfl⟩
      rw [← hz'] at c1 c2
      have hjI : (j : Int) < (n : Int) := by omega
      clear hz' hz
      go_wp2
      go_quiet (fail)
      go_wp2
      go_roundw
      case rel => exact ⟨j + 1, by omega, by go_num, _, rfl⟩
      case measure => simp [intOf]; omega
    · have hje : j = n := by omega
      subst hje
      go_wp2
      go_ret
      exact ⟨rfl, _, rfl⟩
end Go.Proofs.Qxb6612291a
