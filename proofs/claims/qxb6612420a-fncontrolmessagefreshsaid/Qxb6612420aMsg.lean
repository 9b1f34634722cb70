import Derived.Test.Qxb6612420aCopy
import Derived.Laws.Pointers
import Derived.LaidEqlPtr
import Derived.Lib.Builder
import Derived.OwnWalk
import Derived.Deep.RegionWith
namespace Go.Proofs.Qxb6612420a
open Go.ChangeShapes Go.WideShapes Go.ChangeAt Go.RowKit
set_option linter.unusedVariables false

/-- zzSameMemory of a slice and itself. -/
theorem same10_zero (a : Option Addr) (c : Nat) (w : World) : Calls Try.prog 10 #[.slice a 0 c, .slice a 0 c] w fun e w' => e = .returned (.bool true) ∧ ∃ nq, w' = w.drewN nq := by
  have q22 : ∀ (w : World) (a : Option Addr) (n c n' c' : Nat), (binOp .eql 22 (.slice a n c) (.slice none n' c')).run Try.prog w = .ok (.bool a.isNone) w := fun w a n c n' c' => Lib.run_eql_slice_nil w _ _ a n c n' c' Try.underlying22
  have hd : decide ((0 : Int) < ((0 : Nat) : Int)) = false := rfl
  go_enter Try.func10, Try.ntmps10
  go_wp2
  go_quiet (fail)
  go_wp2
  go_ret
  exact ⟨rfl, _, rfl⟩

theorem same10_pos (b n c : Nat) (hn : 0 < n) (w : World) : Calls Try.prog 10 #[.slice (some ⟨b, 0, none⟩) n c, .slice (some ⟨b, 0, none⟩) n c] w fun e w' => e = .returned (.bool true) ∧ ∃ nq, w' = w.drewN nq := by
  have q22 : ∀ (w : World) (a : Option Addr) (n c n' c' : Nat), (binOp .eql 22 (.slice a n c) (.slice none n' c')).run Try.prog w = .ok (.bool a.isNone) w := fun w a n c n' c' => Lib.run_eql_slice_nil w _ _ a n c n' c' Try.underlying22
  have hnI : (0 : Int) < (n : Int) := by omega
  obtain ⟨i5, hi5, _⟩ := info_parts Try.info5
  have hpp : ∀ w : World, (binOp .neq 48 (.pointer (some ⟨b, 0, none⟩)) (.pointer (some ⟨b, 0, none⟩))).run Try.prog w = .ok (.bool false) w := fun w => Lib.run_neq_ptr_same w ⟨b, 0, none⟩ Try.underlying48 hi5
  go_enter Try.func10, Try.ntmps10
  go_wp2
  go_quiet (fail)
  go_wp2
  go_ret
  exact ⟨rfl, _, rfl⟩

/-- What zzCopyBytes hands back: nil, or a slice at the head of a block of its own. -/
def Pay (B : Nat) (a : Option Addr) (n c : Nat) : Prop := (a = none ∧ n = 0 ∧ c = 0) ∨ a = some ⟨B, 0, none⟩
theorem same10 (B : Nat) (a : Option Addr) (n c : Nat) (h : Pay B a n c) (w : World) : Calls Try.prog 10 #[.slice a n c, .slice a n c] w fun e w' => e = .returned (.bool true) ∧ ∃ nq, w' = w.drewN nq := by
  by_cases hn : n = 0
  · subst hn
    exact same10_zero a c w
  · rcases h with ⟨_, h, _⟩ | rfl
    · exact absurd h hn
    · exact same10_pos B n c (by omega) w

theorem copy8 (a : Option Addr) (len cap : Nat) (zs : List Int) (w : World) (hr : IsRow .u8 w a len cap zs) (hlen : len ≤ 1048576) :
    Calls Try.prog 8 #[.slice a len cap] w fun e w' => ∃ a' c', e = .returned (.slice a' len c') ∧ Pay w.heap.size a' len c' ∧ Below w.heap.size w w' := by
  rcases hr with ⟨rfl, rfl, rfl, rfl⟩ | ⟨x, rfl, hl, hm, hz, hcell, hwf⟩
  · refine (copy8_nil w).mono ?_
    rintro e w' ⟨rfl, rfl⟩
    exact ⟨_, _, rfl, .inl ⟨rfl, rfl, rfl⟩, Below.refl _ _⟩
  · refine (copy8_some x len cap zs w hlen (by omega) hcell).mono ?_
    rintro e w' ⟨rfl, hb⟩
    exact ⟨_, _, rfl, .inr rfl, hb⟩

theorem Try.info30 : (Try.prog.info? 30).map (fun i => (i.zero, i.size, i.bytes)) = some (some (.agg #[.int .u32 0, .int .u32 0, .int .u8 0, .int .u32 0, .slice none 0 0]), 5, 40) := by kernel_rfl

set_option maxHeartbeats 400000 in
theorem msg9 (t : Int) (a : Option Addr) (n c : Nat) (w : World) : Calls Try.prog 9 #[.int .u8 t, .slice a n c] w fun e w' =>
    e = .returned (.pointer (some ⟨w.heap.size, 0, none⟩)) ∧ w' = w.alloc (.cells #[.int .u32 2, .int .u32 0, .int .u8 t, .int .u32 0, .slice a n c] 30) := by
  go_enter Try.func9, Try.ntmps9
  go_wp2
  go_ret
  exact ⟨rfl, rfl⟩

set_option maxHeartbeats 400000 in
theorem walk3_bytes (t u : Int) (a : Option Addr) (len cap : Nat) (w : World) (m : len ≤ maxLen) (h : ¬ len ≤ 1048576) :
    Calls Try.prog 3 #[.int .u8 t, .int .u8 u, .slice a len cap] w fun e w' => e = .returned (.bool true) ∧ Below w.heap.size w w' := by
  go_enter Try.func3, Try.ntmps3
  go_wp2_with (go_at_call 7; refine (bytes7_no t u a len cap m h _).mono ?_; rintro e w' ⟨rfl, rfl⟩)
  go_ret
  exact ⟨rfl, Below.refl _ _⟩

theorem two_msgs (w : World) (c1 c2 : Array Value) : (binOp .eql 25 (.pointer (some ⟨w.heap.size, 0, none⟩)) (.pointer (some ⟨w.heap.size + 1, 0, none⟩))).run Try.prog ((w.alloc (.cells c1 30)).alloc (.cells c2 30)) = .ok (.bool false) ((w.alloc (.cells c1 30)).alloc (.cells c2 30)) := by
  obtain ⟨i, hi, _, hs, _⟩ := info_parts Try.info30
  have e : (w.alloc (.cells c1 30)).heap.size = w.heap.size + 1 := by simp
  refine run_eql_ptr_other (ca := c1) (cb := c2) (ta := 30) (tb := 30) _ Try.underlying25 hi (by rw [hs]; decide) (by simp) ?_ ?_
  · show ((w.alloc (.cells c1 30)).alloc (.cells c2 30)).heap[w.heap.size]? = _
    rw [Below.heap_alloc _ _ _ (by rw [e]; omega)]
    exact heap_alloc_new w _
  · show ((w.alloc (.cells c1 30)).alloc (.cells c2 30)).heap[w.heap.size + 1]? = _
    rw [← e]
    exact heap_alloc_new _ _

set_option maxRecDepth 100000 in
set_option maxHeartbeats 1600000 in
theorem walk3_main (t u : Int) (a : Option Addr) (len cap : Nat) (zs : List Int) (w : World) (hr : IsRow .u8 w a len cap zs) (hlen : len ≤ 1048576) :
    Calls Try.prog 3 #[.int .u8 t, .int .u8 u, .slice a len cap] w fun e w' => e = .returned (.bool true) ∧ Below w.heap.size w w' := by
  have h0 : decide ((1048576 : Int) < (len : Int)) = false := decide_eq_false (by omega)
  go_enter Try.func3, Try.ntmps3
  go_wp2_with (first
    | (go_at_call 7; refine (bytes7_ok t u a len cap hlen _).mono ?_; rintro e w' ⟨rfl, hw⟩; obtain rfl := hw.symm)
    | (go_at_call 8; refine (copy8 a len cap zs _ hr hlen).mono ?_; rintro e w1 ⟨a1, c1, rfl, hpay, hbel⟩; have htw := two_msgs w1)
    | (go_at_call 9; refine (msg9 _ a1 len c1 _).mono ?_; rintro e w2 ⟨rfl, rfl⟩)
    | (go_at_call 10; refine (same10 w.heap.size a1 len c1 hpay _).mono ?_; rintro e w2 ⟨rfl, nq, rfl⟩))
  go_ret
  have hB : w.heap.size ≤ w1.heap.size := hbel.size
  exact ⟨rfl, below_drewN (((((below_drewN ((hbel.alloc hB _).alloc (by simp; omega) _) _).setCell hB _).setCell hB _).setCell hB _).setCell hB _) _⟩
end Go.Proofs.Qxb6612420a
