import Derived.Test.Qxb6612291aRows
import Derived.WalkKit
import Derived.WalkSpells
import Derived.ProofKit
import Derived.Below
import Derived.Deep.OwnRows
import Derived.Lib.SliceRun
import Derived.Outline
namespace Go.Proofs.Qxb6612291a
open Go.ChangeShapes Go.WideShapes Go.ChangeAt Go.RowKit
set_option linter.unusedVariables false

theorem Try.info3 : (Try.prog.info? 3).map (fun i => (i.zero, i.size, i.bytes)) = some (some (.int .i64 0), 1, 8) := by kernel_rfl

/-- A slice of ints as it is known to a walk: nil, or a row of cells. -/
def IsRow (k : IntKind) (w : World) (a : Option Addr) (len cap : Nat) (zs : List Int) : Prop :=
  (a = none ∧ len = 0 ∧ cap = 0 ∧ zs = []) ∨
  ∃ x, a = some x ∧ len ≤ cap ∧ cap ≤ maxLen ∧ zs.length = cap ∧ (∀ i, i < zs.length → w.cell? (x.add i) = some (.int k (zs.getD i 0))) ∧ ∀ n ∈ zs, (Lit.int k n).wf = true

/-- What has been copied behind k rounds. -/
def part (zs : List Int) (len k : Nat) : List Value := (zs.take k).map (Value.int .i64) ++ List.replicate (len - k) (.int .i64 0)

theorem part_zero (zs : List Int) (len : Nat) : part zs len 0 = List.replicate len (.int .i64 0) := by simp [part]
theorem part_full (zs : List Int) (len : Nat) : part zs len len = (zs.take len).map (Value.int .i64) := by simp [part]
theorem part_at (zs : List Int) (len k : Nat) (h : k < len) (hz : len ≤ zs.length) : (part zs len k)[k]? = some (.int .i64 0) := by
  unfold part
  have hl : ((zs.take k).map (Value.int .i64)).length = k := by simp; omega
  rw [List.getElem?_append_right (by rw [hl]; exact Nat.le_refl _), hl, Nat.sub_self, List.getElem?_replicate, if_pos (by omega)]
theorem part_set (zs : List Int) (len k : Nat) (h : k < len) (hz : len ≤ zs.length) : (part zs len k).set k (.int .i64 (zs.getD k 0)) = part zs len (k + 1) := by
  unfold part
  have hl : ((zs.take k).map (Value.int .i64)).length = k := by simp; omega
  obtain ⟨m, hm⟩ : ∃ m, len - k = m + 1 := ⟨len - k - 1, by omega⟩
  rw [List.set_append_right _ _ (by rw [hl]; exact Nat.le_refl _), hl, hm, show len - (k + 1) = m from by omega]
  rw [List.take_succ_eq_append_getElem (show k < zs.length from by omega), List.map_append, List.append_assoc]
  congr 1
  simp [List.replicate_succ, List.getElem?_eq_getElem (show k < zs.length from by omega)]

theorem clone_nil (w : World) : Calls Try.prog 13 #[.slice none 0 0] w fun e w' => e = .returned (.slice none 0 0) ∧ w' = w := by
  have q24 : ∀ (w : World) (a : Option Addr) (n c n' c' : Nat), (binOp .eql 24 (.slice a n c) (.slice none n' c')).run Try.prog w = .ok (.bool a.isNone) w := fun w a n c n' c' => Lib.run_eql_slice_nil w _ _ a n c n' c' Try.underlying24
  go_enter Try.func13, Try.ntmps13
  go_wp2
  go_ret
  exact ⟨rfl, rfl⟩

theorem clone_zero (x : Addr) (cap : Nat) (w : World) : Calls Try.prog 13 #[.slice (some x) 0 cap] w fun e w' =>
    ∃ v, e = .returned v ∧ w'.ownsRow w.heap.size 3 1 v 0 [] ∧ Below w.heap.size w w' := by
  have q24 : ∀ (w : World) (a : Option Addr) (n c n' c' : Nat), (binOp .eql 24 (.slice a n c) (.slice none n' c')).run Try.prog w = .ok (.bool a.isNone) w := fun w a n c n' c' => Lib.run_eql_slice_nil w _ _ a n c n' c' Try.underlying24
  have hmk := run_make_row' (P := Try.prog) 24 3 (.int .i64 0) 8 Try.underlying24 Try.info3 rfl .i64 .i64 0 (by omega) (by omega)
  rw [show ((0 : Nat) : Int) = 0 from rfl] at hmk
  have hst : (w.alloc (.cells (madeCells #[.int .i64 0] 0) 3)).ownsRow w.heap.size 3 1 (.slice (some ⟨w.heap.size, 0, none⟩) 0 0) 0 [] := by
    have := World.ownsRow_lit (base := w.heap.size) (e := 3) (size := 1) w (madeCells #[.int .i64 0] 0) 0 (Nat.le_refl _) (by unfold maxLen; omega) (by simp [madeCells])
    rw [toList_madeCells_one] at this
    exact this
  go_enter Try.func13, Try.ntmps13
  go_wp2
  refine wp_loop_rounds 1 ?_
  rw [rounds_succ]
  go_wp2
  go_ret
  exact ⟨_, rfl, hst, (Below.refl _ _).alloc (Nat.le_refl _) _⟩

set_option maxHeartbeats 800000 in
theorem clone_some (b off len cap : Nat) (zs : List Int) (w : World) (h0 : 0 < len) (hlen : len ≤ 1048576) (hlz : len ≤ zs.length)
    (hc : ∀ i, i < zs.length → w.cell? ⟨b, off + i, none⟩ = some (.int .i64 (zs.getD i 0))) :
    Calls Try.prog 13 #[.slice (some ⟨b, off, none⟩) len cap] w fun e w' =>
    ∃ v, e = .returned v ∧ w'.ownsRow w.heap.size 3 1 v len ((zs.take len).map (Value.int .i64)) ∧ Below w.heap.size w w' := by
  have q24 : ∀ (w : World) (a : Option Addr) (n c n' c' : Nat), (binOp .eql 24 (.slice a n c) (.slice none n' c')).run Try.prog w = .ok (.bool a.isNone) w := fun w a n c n' c' => Lib.run_eql_slice_nil w _ _ a n c n' c' Try.underlying24
  have hmk := run_make_row' (P := Try.prog) 24 3 (.int .i64 0) 8 Try.underlying24 Try.info3 rfl .i64 .i64 len (by omega) (by omega)
  have hbB : b < w.heap.size := World.block_lt_of_cell? w ⟨b, off + 0, none⟩ (hc 0 (by omega))
  have hst : (w.alloc (.cells (madeCells #[.int .i64 0] len) 3)).ownsRow w.heap.size 3 1 (.slice (some ⟨w.heap.size, 0, none⟩) len len) len (part zs len 0) := by
    have := World.ownsRow_lit (base := w.heap.size) (e := 3) (size := 1) w (madeCells #[.int .i64 0] len) len (Nat.le_refl _) (by unfold maxLen; omega) (by simp [madeCells])
    rw [toList_madeCells_one] at this
    rw [part_zero]; exact this
  go_enter Try.func13, Try.ntmps13
  go_wp2
  go_loopw [4] (fun i wr => ∃ k : Nat, k ≤ len ∧ i = .int .i64 k ∧ wr.ownsRow w.heap.size 3 1 (.slice (some ⟨w.heap.size, 0, none⟩) len len) len (part zs len k) ∧ Below w.heap.size w wr) (fun i _ => len - (intOf i).toNat)
  case atStart => exact ⟨0, Nat.zero_le _, rfl, hst, (Below.refl _ _).alloc (Nat.le_refl _) _⟩
  case round =>
    obtain ⟨k, hk, rfl, hown, hbel⟩ := hrel
    clear hst hmk
    by_cases hlt : k < len
    · obtain ⟨z, hz⟩ : ∃ z, z = zs.getD k 0 := ⟨_, rfl⟩
      have hcx : wr.cell? ⟨b, off + k, none⟩ = some (.int .i64 z) := by rw [hz]; exact (hbel.cell (by exact hbB)).trans (hc k (by omega))
      have hcd : wr.cell? ⟨w.heap.size, k, none⟩ = some (.int .i64 0) := by rw [hown.cellAt k (by omega)]; exact part_at zs len k hlt hlz
      have hfd : wr.frozen? ⟨w.heap.size, k, none⟩ = false := hown.frozenAt k
      have R1 : Hid ((wr.setCell ⟨w.heap.size, k, none⟩ (.int .i64 z)).ownsRow w.heap.size 3 1 (.slice (some ⟨w.heap.size, 0, none⟩) len len) len (part zs len (k + 1))) := by
        have := (hown.stored k (.int .i64 z)).1
        rw [hz, part_set zs len k hlt hlz] at this
        rw [hz]; exact this
      have R2 : Hid (Below w.heap.size w (wr.setCell ⟨w.heap.size, k, none⟩ (.int .i64 z))) := hbel.setCell (p := ⟨w.heap.size, k, none⟩) (Nat.le_refl _) _
      have hkI : (k : Int) < (len : Int) := by omega
      clear hz hc hown hbel
      go_wp2
      go_roundw
      case rel => exact ⟨k + 1, by omega, by go_num, R1.out, R2.out⟩
      case measure => simp [intOf]; omega
    · have hke : k = len := by omega
      subst hke
      rw [part_full] at hown
      go_wp2
      go_ret
      exact ⟨_, rfl, hown, hbel⟩

/-- zzCloneInts: a new slice of the same elements. -/
theorem clone_any (a : Option Addr) (len cap : Nat) (zs : List Int) (w : World) (hr : IsRow .i64 w a len cap zs) (hlen : len ≤ 1048576) :
    Calls Try.prog 13 #[.slice a len cap] w fun e w' =>
    ∃ v, e = .returned v ∧ w'.ownsRow w.heap.size 3 1 v len ((zs.take len).map (Value.int .i64)) ∧ Below w.heap.size w w' := by
  rcases hr with ⟨rfl, rfl, rfl, rfl⟩ | ⟨x, rfl, hl, hm, hz, hcell, hwf⟩
  · refine (clone_nil w).mono ?_
    rintro e w' ⟨rfl, rfl⟩
    exact ⟨_, rfl, World.ownsRow_nil _ _ _ _, Below.refl _ _⟩
  · by_cases h0 : len = 0
    · subst h0
      exact clone_zero x cap w
    · obtain ⟨b, off, spot⟩ := x
      have hspot : spot = none := by simpa [Addr.add] using World.cell?_spot (hcell 0 (by omega))
      subst hspot
      exact clone_some b off len cap zs w (by omega) hlen (by omega) (fun j hj => by rw [← add_plain]; exact hcell j hj)
end Go.Proofs.Qxb6612291a
