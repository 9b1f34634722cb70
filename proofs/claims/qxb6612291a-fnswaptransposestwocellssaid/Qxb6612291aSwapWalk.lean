import Derived.Test.Qxb6612291aSwap
import Derived.Deep.AppendLies
import Derived.Outline
namespace Go.Proofs.Qxb6612291a
open Go.ChangeShapes Go.WideShapes Go.ChangeAt Go.RowKit
set_option linter.unusedVariables false

/-- make([]int, 0, n) -/
theorem make0 (n : Nat) (hn : n ≤ 1048576) (w : World) : (Instr.makeSlice 24 (.int .i64 0) (.int .i64 (n : Int))).run Try.prog w = .ok (.slice (some ⟨w.heap.size, 0, none⟩) 0 n) (w.alloc (.cells (madeCells #[.int .i64 0] n) 3)) := by
  obtain ⟨i0, hi0, hz0, hz1, hz2⟩ := info_parts Try.info3
  have hr := run_make (P := Try.prog) w 24 3 i0 (.int .i64 0) Try.underlying24 hi0 hz0 .i64 .i64 0 n (by omega) (by omega) (by rw [hz2]; omega) (by omega)
  rw [hz1] at hr
  simpa [Value.cells] using hr

/-- A copy of a slice that has elements. -/
theorem clone_pos (b off len cap : Nat) (zs : List Int) (w : World) (h0 : 0 < len) (hlen : len ≤ 1048576) (hlz : len ≤ zs.length)
    (hc : ∀ i, i < zs.length → w.cell? ⟨b, off + i, none⟩ = some (.int .i64 (zs.getD i 0))) :
    Calls Try.prog 13 #[.slice (some ⟨b, off, none⟩) len cap] w fun e w' =>
    ∃ g cp, e = .returned (.slice (some ⟨g, 0, none⟩) len cp) ∧ w.heap.size ≤ g ∧ g < w'.heap.size ∧ w'.ownsRow w.heap.size 3 1 (.slice (some ⟨g, 0, none⟩) len cp) len ((zs.take len).map (Value.int .i64)) ∧ Below w.heap.size w w' := by
  refine (clone_some b off len cap zs w h0 hlen hlz hc).mono ?_
  rintro e w' ⟨v, rfl, hown, hbel⟩
  obtain ⟨g, cp, rfl, h1, h2⟩ := hown.form h0
  exact ⟨g, cp, rfl, h1, h2, hown, hbel⟩

/-- What stands in every round: c owns all of Z, want the first k of Z. -/
def Inv (w : World) (g cp0 B2 len : Nat) (Z : List Int) (wr : World) (v : Value) (k : Nat) : Prop :=
  wr.ownsRow w.heap.size 3 1 (.slice (some ⟨g, 0, none⟩) len cp0) len (Z.map (Value.int .i64)) ∧ Below w.heap.size w wr ∧ wr.ownsRow B2 3 1 v k ((Z.take k).map (Value.int .i64)) ∧ B2 ≤ wr.heap.size

theorem inv_app {w : World} {g cp0 B2 len : Nat} {Z : List Int} {wr w1 : World} {v v' : Value} {k : Nat} {z : Int} {o : Obj} (h : Inv w g cp0 B2 len Z wr v k) (hg : g < B2) (hB : w.heap.size ≤ B2) (hk : k < Z.length) (hz : z = Z.getD k 0)
    (hown1 : w1.ownsRow B2 3 1 v' (k + 1) ((Z.take k).map (Value.int .i64) ++ [.int .i64 z])) (hgrow : (wr.alloc o).grownBy w1 v.ownBlock) : Inv w g cp0 B2 len Z w1 v' (k + 1) := by
  obtain ⟨h1, h2, h3, h4⟩ := h
  have hsz : (wr.alloc o).heap.size = wr.heap.size + 1 := by simp
  refine ⟨(h1.alloc o).kept hgrow ?_, ?_, ?_, ?_⟩
  · right
    intro e
    have := (h3.lt g (by rw [← e]; rfl)).1
    omega
  · exact (h2.alloc (by omega) o).grown hgrow (by omega) (fun i hi => by have := (h3.lt i hi).1; omega)
  · have e : (Z.take k).map (Value.int .i64) ++ [.int .i64 z] = (Z.take (k + 1)).map (Value.int .i64) := by
      rw [List.take_succ_eq_append_getElem hk, List.map_append, hz]
      simp [List.getElem?_eq_getElem hk]
    rw [← e]; exact hown1
  · have := hgrow.size; omega

set_option maxHeartbeats 400000 in
theorem walk5_bytes (a0 : Option Addr) (len0 cap0 : Nat) (i j : Int) (w : World) (m0 : len0 ≤ maxLen) (h : ¬ len0 ≤ 1048576) :
    Calls Try.prog 5 #[.slice a0 len0 cap0, .int .i64 i, .int .i64 j] w fun e w' => e = .returned (.bool true) ∧ Below w.heap.size w w' := by
  go_enter Try.func5, Try.ntmps5
  go_wp2_with (go_at_call 12; refine (bytes12_no a0 len0 cap0 i j m0 h _).mono ?_; rintro e w' ⟨rfl, rfl⟩)
  go_ret
  exact ⟨rfl, Below.refl _ _⟩

set_option maxHeartbeats 400000 in
theorem walk5_long (a0 : Option Addr) (len0 cap0 : Nat) (i j : Int) (w : World) (h : len0 ≤ 1048576) (h2 : (131072 : Int) < len0) :
    Calls Try.prog 5 #[.slice a0 len0 cap0, .int .i64 i, .int .i64 j] w fun e w' => e = .returned (.bool true) ∧ Below w.heap.size w w' := by
  go_enter Try.func5, Try.ntmps5
  go_wp2_with (go_at_call 12; refine (bytes12_ok a0 len0 cap0 i j h _).mono ?_; rintro e w' ⟨rfl, rfl⟩)
  go_ret
  exact ⟨rfl, Below.refl _ _⟩

set_option maxHeartbeats 1600000 in
theorem walk5_out (a0 : Option Addr) (len0 cap0 : Nat) (i j : Int) (w : World) (h : len0 ≤ 1048576) (h2 : ¬ (131072 : Int) < len0) (h3 : i < 0 ∨ (len0 : Int) ≤ i ∨ j < 0 ∨ (len0 : Int) ≤ j) :
    Calls Try.prog 5 #[.slice a0 len0 cap0, .int .i64 i, .int .i64 j] w fun e w' => e = .returned (.bool true) ∧ Below w.heap.size w w' := by
  by_cases c1 : i < 0
  · clear h3
    go_enter Try.func5, Try.ntmps5
    go_wp2_with (go_at_call 12; refine (bytes12_ok a0 len0 cap0 i j h _).mono ?_; rintro e w' ⟨rfl, rfl⟩)
    go_ret
    exact ⟨rfl, Below.refl _ _⟩
  by_cases c2 : (len0 : Int) ≤ i
  · clear h3
    go_enter Try.func5, Try.ntmps5
    go_wp2_with (go_at_call 12; refine (bytes12_ok a0 len0 cap0 i j h _).mono ?_; rintro e w' ⟨rfl, rfl⟩)
    go_ret
    exact ⟨rfl, Below.refl _ _⟩
  by_cases c3 : j < 0
  · clear h3
    go_enter Try.func5, Try.ntmps5
    go_wp2_with (go_at_call 12; refine (bytes12_ok a0 len0 cap0 i j h _).mono ?_; rintro e w' ⟨rfl, rfl⟩)
    go_ret
    exact ⟨rfl, Below.refl _ _⟩
  have c4 : (len0 : Int) ≤ j := by omega
  clear h3
  go_enter Try.func5, Try.ntmps5
  go_wp2_with (go_at_call 12; refine (bytes12_ok a0 len0 cap0 i j h _).mono ?_; rintro e w' ⟨rfl, rfl⟩)
  go_ret
  exact ⟨rfl, Below.refl _ _⟩
end Go.Proofs.Qxb6612291a
