import Derived.Test.Qxb6612420aRows
import Derived.WalkKit
import Derived.WalkSpells
import Derived.ProofKit
import Derived.Below
import Derived.WalkSmall
import Derived.Deep.OwnRows
import Derived.Lib.SliceRun
import Derived.Laws.CopyOwn
import Derived.Deep.QuietTactic
import Derived.BigQuiet
import Derived.Outline
namespace Go.Proofs.Qxb6612420a
open Go.ChangeShapes Go.WideShapes Go.ChangeAt Go.RowKit
set_option linter.unusedVariables false

theorem Try.info5 : (Try.prog.info? 5).map (fun i => (i.zero, i.size, i.bytes)) = some (some (.int .u8 0), 1, 1) := by kernel_rfl
theorem Try.size5 : (Try.prog.info? 5).map (·.size) = some 1 := by kernel_rfl

/-- A slice of numbers as it is known to a walk: nil, or a row of cells. -/
def IsRow (k : IntKind) (w : World) (a : Option Addr) (len cap : Nat) (zs : List Int) : Prop :=
  (a = none ∧ len = 0 ∧ cap = 0 ∧ zs = []) ∨
  ∃ x, a = some x ∧ len ≤ cap ∧ cap ≤ maxLen ∧ zs.length = cap ∧ (∀ i, i < zs.length → w.cell? (x.add i) = some (.int k (zs.getD i 0))) ∧ ∀ n ∈ zs, (Lit.int k n).wf = true

/-! ### the guard on lengths -/
set_option maxHeartbeats 400000 in
theorem bytes7_ok (t u : Int) (a : Option Addr) (n c : Nat) (h : n ≤ 1048576) (w : World) :
    Calls Try.prog 7 #[.int .u8 t, .int .u8 u, .slice a n c] w fun e w' => e = .returned (.bool true) ∧ w' = w := by
  have h0 : ¬ (1048576 : Int) < (n : Int) := by omega
  go_enter Try.func7, Try.ntmps7
  go_wp2
  go_ret
  exact ⟨rfl, rfl⟩

set_option maxHeartbeats 400000 in
theorem bytes7_no (t u : Int) (a : Option Addr) (n c : Nat) (m : n ≤ maxLen) (h : ¬ n ≤ 1048576) (w : World) :
    Calls Try.prog 7 #[.int .u8 t, .int .u8 u, .slice a n c] w fun e w' => e = .returned (.bool false) ∧ w' = w := by
  unfold maxLen at m
  have h0 : (1048576 : Int) < (n : Int) := by omega
  go_enter Try.func7, Try.ntmps7
  go_wp2
  go_ret
  exact ⟨rfl, rfl⟩

/-! ### zzCopyBytes -/
theorem copy8_nil (w : World) : Calls Try.prog 8 #[.slice none 0 0] w fun e w' => e = .returned (.slice none 0 0) ∧ w' = w := by
  have q22 : ∀ (w : World) (a : Option Addr) (n c n' c' : Nat), (binOp .eql 22 (.slice a n c) (.slice none n' c')).run Try.prog w = .ok (.bool a.isNone) w := fun w a n c n' c' => Lib.run_eql_slice_nil w _ _ a n c n' c' Try.underlying22
  go_enter Try.func8, Try.ntmps8
  go_wp2
  go_ret
  exact ⟨rfl, rfl⟩

theorem made_row (len : Nat) (w : World) : (w.alloc (.cells (madeCells #[.int .u8 0] len) 5)).heap[w.heap.size]? = some (.cells (List.replicate len (Value.int .u8 0)).toArray 5 (0, 0)) := by
  have e : madeCells #[.int .u8 0] len = (List.replicate len (Value.int .u8 0)).toArray := by
    apply Array.ext'
    rw [toList_madeCells_one]
  rw [← e]
  exact heap_alloc_new w _

set_option maxHeartbeats 800000 in
theorem copy8_some (x : Addr) (len cap : Nat) (zs : List Int) (w : World) (hlen : len ≤ 1048576) (hlz : len ≤ zs.length) (hc : ∀ i, i < zs.length → w.cell? (x.add i) = some (.int .u8 (zs.getD i 0))) :
    Calls Try.prog 8 #[.slice (some x) len cap] w fun e w' => e = .returned (.slice (some ⟨w.heap.size, 0, none⟩) len len) ∧ Below w.heap.size w w' := by
  have q22 : ∀ (w : World) (a : Option Addr) (n c n' c' : Nat), (binOp .eql 22 (.slice a n c) (.slice none n' c')).run Try.prog w = .ok (.bool a.isNone) w := fun w a n c n' c' => Lib.run_eql_slice_nil w _ _ a n c n' c' Try.underlying22
  have hmk := run_make_row' (P := Try.prog) 22 5 (.int .u8 0) 1 Try.underlying22 Try.info5 rfl .i64 .i64 len (by omega) (by omega)
  have hbel : Below w.heap.size w (w.alloc (.cells (madeCells #[.int .u8 0] len) 5)) := (Below.refl _ _).alloc (Nat.le_refl _) _
  have hl : ((zs.take len).map (Value.int .u8)).length = len := by rw [List.length_map, List.length_take]; omega
  have hn : ((zs.take len).map (Value.int .u8)).length = Nat.min len len := by rw [hl]; exact (Nat.min_self len).symm
  have hsrc : ∀ j v, ((zs.take len).map (Value.int .u8))[j]? = some v → (w.alloc (.cells (madeCells #[.int .u8 0] len) 5)).cell? (x.add j) = some v := by
    intro j v hj
    have hjl : j < len := by
      have := (List.getElem?_eq_some_iff.1 hj).1
      omega
    have hcj := hc j (by omega)
    have hlt := World.block_lt_of_cell? w _ hcj
    rw [hbel.cell hlt, hcj]
    rw [List.getElem?_map, List.getElem?_take, if_pos hjl] at hj
    simpa [List.getElem?_eq_getElem (show j < zs.length from by omega)] using hj
  have h1 : ∀ v ∈ (zs.take len).map (Value.int .u8), v.oneCell' = true := by
    intro v hv
    obtain ⟨z, _, rfl⟩ := List.mem_map.1 hv
    rfl
  have HN : Hid (((zs.take len).map (Value.int .u8)).length = Nat.min len len) := hn
  have HL : Hid (((zs.take len).map (Value.int .u8)).length = len) := hl
  have HS : Hid (∀ j v, ((zs.take len).map (Value.int .u8))[j]? = some v → (w.alloc (.cells (madeCells #[.int .u8 0] len) 5)).cell? (x.add j) = some v) := hsrc
  clear hc hn hl hsrc
  go_enter Try.func8, Try.ntmps8
  go_wp2_with (refine wpList_copy_splice rfl (.tmp 9) (.tmp 10) 22 22 rfl 5 Try.underlying22 Try.size5 (some ⟨w.heap.size, 0, none⟩) (some x) len len len cap rfl rfl w.heap.size 0 (List.replicate len (Value.int .u8 0)) 5 (made_row len w) ((zs.take len).map (Value.int .u8)) HN.out (fun _ => ⟨rfl, x, rfl, HS.out⟩) (by rw [HL.out]; simp) h1 w.heap.size w hbel (Nat.le_refl _) ?_; intro w1 hh1 hb1)
  go_ret
  exact ⟨rfl, hb1⟩
end Go.Proofs.Qxb6612420a
