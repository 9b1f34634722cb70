import Derived.Test.Qxb6612420aReader
import Derived.Deep.RegionWith
namespace Go.Proofs.Qxb6612420a
open Go.ChangeShapes Go.WideShapes Go.ChangeAt Go.RowKit
set_option linter.unusedVariables false

/-- The Reader's cells. -/
def rd (m : Int) : Array Value := #[.nilIface, .int .u64 0, .int .u32 128, .pointer none, .pointer none, .pointer none, .pointer none, .pointer none, .pointer none, .pointer none, .pointer none, .map none, .int .i64 0, .int .i64 0, .int .i64 m, .int .u32 0, .int .u32 0, .int .u8 0, .int .u32 0, .slice none 0 0, .nilFunc]

theorem new11' (w : World) : Calls Try.prog 11 #[] w fun e w' => e = .returned (.pointer (some ⟨w.heap.size, 0, none⟩)) ∧ w' = w.alloc (.cells (rd 33554432) 59) := new11 w

/-- What stands behind the two calls of ZZnewReaderNil: two blocks; the first one's bound is m. -/
def Two (w0 w : World) (b : Nat) (m : Int) : Prop :=
  w.heap[b]? = some (.cells (rd m) 59 (0, 0)) ∧ w.heap[b + 1]? = some (.cells (rd 33554432) 59 (0, 0)) ∧ Below b w0 w

theorem two_start (w : World) : Two w ((w.alloc (.cells (rd 33554432) 59)).alloc (.cells (rd 33554432) 59)) w.heap.size 33554432 := by
  have e : (w.alloc (.cells (rd 33554432) 59)).heap.size = w.heap.size + 1 := by simp
  refine ⟨?_, ?_, ((Below.refl _ _).alloc (Nat.le_refl _) _).alloc (by rw [e]; omega) _⟩
  · rw [Below.heap_alloc _ _ _ (by rw [e]; omega)]
    exact heap_alloc_new w _
  · rw [← e]
    exact heap_alloc_new _ _

theorem two_cells {w0 w : World} {b : Nat} {m : Int} (h : Two w0 w b m) :
    w.cell? ⟨b, 14, none⟩ = some (.int .i64 m) ∧ w.cell? ⟨b, 2, none⟩ = some (.int .u32 128) ∧ w.cell? ⟨b, 13, none⟩ = some (.int .i64 0) ∧ w.frozen? ⟨b, 14, none⟩ = false ∧
    w.cell? ⟨b + 1, 14, none⟩ = some (.int .i64 33554432) ∧ w.cell? ⟨b + 1, 2, none⟩ = some (.int .u32 128) ∧ w.cell? ⟨b + 1, 13, none⟩ = some (.int .i64 0) := by
  obtain ⟨h1, h2, _⟩ := h
  refine ⟨?_, ?_, ?_, frozen_of_row w b 14 _ 59 h1, ?_, ?_, ?_⟩
  all_goals (first | rw [cell_of_row w b _ _ 59 (0, 0) h1] | rw [cell_of_row w (b + 1) _ _ 59 (0, 0) h2]); rfl

theorem two_set {w0 w : World} {b : Nat} {m : Int} (h : Two w0 w b m) (n : Int) : Two w0 (w.setCell ⟨b, 14, none⟩ (.int .i64 n)) b n := by
  obtain ⟨h1, h2, h3⟩ := h
  refine ⟨?_, ?_, h3.setCell (p := ⟨b, 14, none⟩) (Nat.le_refl _) _⟩
  · rw [heap_setCell_same w b 14 _ 59 _ h1]
    rfl
  · rw [Below.heap_setCell _ _ _ _ (show b + 1 ≠ b by omega)]
    exact h2

theorem set12' (b : Nat) (n : Int) (w0 w : World) {m : Int} (h : Two w0 w b m) : Calls Try.prog 12 #[.pointer (some ⟨b, 0, none⟩), .int .i64 n] w fun e w' => e = .returned (.tuple #[]) ∧ Two w0 w' b n := by
  obtain ⟨k1, _, _, k4, _⟩ := two_cells h
  refine (set12 b n _ w k1 k4).mono ?_
  rintro e w' ⟨rfl, rfl⟩
  exact ⟨rfl, two_set h n⟩

set_option maxRecDepth 100000 in
set_option maxHeartbeats 800000 in
theorem walk4 (n : Int) (w : World) : Calls Try.prog 4 #[.int .i64 n] w fun e w' => e = .returned (.bool true) ∧ Below w.heap.size w w' := by
  have htw := two_readers w (rd 33554432) (rd 33554432)
  have hT := two_start w
  go_enter Try.func4, Try.ntmps4
  go_wp2_with fail
  refine (new11' w).mono ?_
  rintro e w1 ⟨rfl, rfl⟩
  go_wp2_with fail
  refine (new11' _).mono ?_
  rintro e w1 ⟨rfl, rfl⟩
  go_wp2_with fail
  refine (set12' w.heap.size n w _ hT).mono ?_
  rintro e w3 ⟨rfl, hT3⟩
  obtain ⟨k1, k2, k3, _, k5, k6, k7⟩ := two_cells hT3
  have hb := hT3.2.2
  clear hT hT3 htw
  go_wp2_with (first
    | (go_at_call_of 13 (Value.pointer (some ⟨w.heap.size, 0, none⟩)); refine (max13 w.heap.size n _ k1).mono ?_; rintro e w4 ⟨rfl, hw⟩; obtain rfl := hw.symm)
    | (go_at_call 13; refine (max13 (w.heap.size + 1) 33554432 _ k5).mono ?_; rintro e w4 ⟨rfl, hw⟩; obtain rfl := hw.symm)
    | (go_at_call_of 14 (Value.pointer (some ⟨w.heap.size, 0, none⟩)); refine (chunk14 w.heap.size 128 _ k2).mono ?_; rintro e w4 ⟨rfl, hw⟩; obtain rfl := hw.symm)
    | (go_at_call 14; refine (chunk14 (w.heap.size + 1) 128 _ k6).mono ?_; rintro e w4 ⟨rfl, hw⟩; obtain rfl := hw.symm)
    | (go_at_call_of 15 (Value.pointer (some ⟨w.heap.size, 0, none⟩)); refine (held15 w.heap.size 0 _ k3).mono ?_; rintro e w4 ⟨rfl, hw⟩; obtain rfl := hw.symm)
    | (go_at_call 15; refine (held15 (w.heap.size + 1) 0 _ k7).mono ?_; rintro e w4 ⟨rfl, hw⟩; obtain rfl := hw.symm))
  go_ret
  exact ⟨rfl, hb⟩
end Go.Proofs.Qxb6612420a
