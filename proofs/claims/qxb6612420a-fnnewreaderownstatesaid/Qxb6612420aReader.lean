import Derived.Test.Qxb6612420aRows
import Derived.WalkKit
import Derived.WalkSpells
import Derived.ProofKit
import Derived.Below
import Derived.WalkSmall
import Derived.OwnWalk
import Derived.Laws.Pointers
import Derived.LaidEqlPtr
import Derived.Outline
namespace Go.Proofs.Qxb6612420a
open Go.ChangeShapes Go.WideShapes Go.ChangeAt Go.RowKit
set_option linter.unusedVariables false

set_option maxRecDepth 100000 in
set_option maxHeartbeats 400000 in
/-- ZZnewReaderNil: a new block of the Reader's 21 cells. -/
theorem new11 (w : World) : Calls Try.prog 11 #[] w fun e w' =>
    e = .returned (.pointer (some ⟨w.heap.size, 0, none⟩)) ∧ w' = w.alloc (.cells #[.nilIface, .int .u64 0, .int .u32 128, .pointer none, .pointer none, .pointer none, .pointer none, .pointer none, .pointer none, .pointer none, .pointer none, .map none, .int .i64 0, .int .i64 0, .int .i64 33554432, .int .u32 0, .int .u32 0, .int .u8 0, .int .u32 0, .slice none 0 0, .nilFunc] 59) := by
  go_enter Try.func11, Try.ntmps11
  go_wp2
  go_ret
  exact ⟨rfl, rfl⟩

theorem Try.size59 : (Try.prog.info? 59).map (·.size) = some 21 := by kernel_rfl

theorem two_readers (w : World) (c1 c2 : Array Value) : (binOp .eql 32 (.pointer (some ⟨w.heap.size, 0, none⟩)) (.pointer (some ⟨w.heap.size + 1, 0, none⟩))).run Try.prog ((w.alloc (.cells c1 59)).alloc (.cells c2 59)) = .ok (.bool false) ((w.alloc (.cells c1 59)).alloc (.cells c2 59)) := by
  obtain ⟨i, hi, hs⟩ := Option.map_eq_some_iff.1 Try.size59
  have e : (w.alloc (.cells c1 59)).heap.size = w.heap.size + 1 := by simp
  refine run_eql_ptr_other (ca := c1) (cb := c2) (ta := 59) (tb := 59) _ Try.underlying32 hi (by rw [hs]; decide) (by simp) ?_ ?_
  · show ((w.alloc (.cells c1 59)).alloc (.cells c2 59)).heap[w.heap.size]? = _
    rw [Below.heap_alloc _ _ _ (by rw [e]; omega)]
    exact heap_alloc_new w _
  · show ((w.alloc (.cells c1 59)).alloc (.cells c2 59)).heap[w.heap.size + 1]? = _
    rw [← e]
    exact heap_alloc_new _ _

/-! ### the four small functions -/
set_option maxHeartbeats 400000 in
theorem set12 (b : Nat) (n : Int) (v : Value) (w : World) (hc : w.cell? ⟨b, 14, none⟩ = some v) (hf : w.frozen? ⟨b, 14, none⟩ = false) :
    Calls Try.prog 12 #[.pointer (some ⟨b, 0, none⟩), .int .i64 n] w fun e w' => e = .returned (.tuple #[]) ∧ w' = w.setCell ⟨b, 14, none⟩ (.int .i64 n) := by
  go_enter Try.func12, Try.ntmps12
  go_wp2
  go_end0
  exact ⟨rfl, rfl⟩

set_option maxHeartbeats 400000 in
theorem max13 (b : Nat) (n : Int) (w : World) (hc : w.cell? ⟨b, 14, none⟩ = some (.int .i64 n)) :
    Calls Try.prog 13 #[.pointer (some ⟨b, 0, none⟩)] w fun e w' => e = .returned (.int .i64 n) ∧ w' = w := by
  go_enter Try.func13, Try.ntmps13
  go_wp2
  go_ret
  exact ⟨rfl, rfl⟩

set_option maxHeartbeats 400000 in
theorem chunk14 (b : Nat) (n : Int) (w : World) (hc : w.cell? ⟨b, 2, none⟩ = some (.int .u32 n)) :
    Calls Try.prog 14 #[.pointer (some ⟨b, 0, none⟩)] w fun e w' => e = .returned (.int .u32 n) ∧ w' = w := by
  go_enter Try.func14, Try.ntmps14
  go_wp2
  go_ret
  exact ⟨rfl, rfl⟩

set_option maxHeartbeats 400000 in
theorem held15 (b : Nat) (n : Int) (w : World) (hc : w.cell? ⟨b, 13, none⟩ = some (.int .i64 n)) :
    Calls Try.prog 15 #[.pointer (some ⟨b, 0, none⟩)] w fun e w' => e = .returned (.int .i64 n) ∧ w' = w := by
  go_enter Try.func15, Try.ntmps15
  go_wp2
  go_ret
  exact ⟨rfl, rfl⟩
end Go.Proofs.Qxb6612420a
