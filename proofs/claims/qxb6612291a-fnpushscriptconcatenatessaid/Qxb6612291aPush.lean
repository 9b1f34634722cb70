import Derived.Test.Qxb6612291aClone
import Derived.StillTactics
import Derived.OwnWalk
import Derived.OneCell
import Derived.Laws.Pointers
import Derived.Deep.RegionLaw
import Derived.BigRegion
import Derived.Deep.AppendLies
namespace Go.Proofs.Qxb6612291a
open Go.ChangeShapes Go.WideShapes Go.ChangeAt Go.RowKit
set_option linter.unusedVariables false

theorem after_app {w w1 : World} {o : Obj} {row : Option Nat} {p : Nat} {b : Obj} (hp : w.heap[p]? = some b) (hg : ((w.alloc o).drew).grownBy w1 row) (hne : row ≠ some p) : w1.heap[p]? = some b := by
  have hlt : p < w.heap.size := by
    rcases Nat.lt_or_ge p w.heap.size with h | h
    · exact h
    · rw [Array.getElem?_eq_none h] at hp; cases hp
  have h2 : p < ((w.alloc o).drew).heap.size := by
    have : (w.alloc o).heap.size = w.heap.size + 1 := by simp
    show p < (w.alloc o).heap.size
    omega
  exact (hg.block p h2 (Ne.symm hne)).trans ((Below.heap_alloc w o p hlt).trans hp)

theorem push_end {w w1 : World} {o : Obj} {v : Value} {p base n gg cap : Nat} {xs ys : List Value} (hown : w.ownsRow base 3 1 v n xs) (hbase : base ≤ w.heap.size) (hbp : base ≤ p) (hne : v.ownBlock ≠ some p) (lp : p < w.heap.size)
    (hown1 : w1.ownsRow base 3 1 (.slice (some ⟨gg, 0, none⟩) (n + 1) cap) (n + 1) ys) (hgrow : ((w.alloc o).drew).grownBy w1 v.ownBlock) (hat : v.ownBlock = some gg ∨ gg = w.heap.size + 1) (hp1 : w1.heap[p]? = some (.cells #[v] 33 (0, 0))) :
    ∃ g cap', (w1.setCell ⟨p, 0, none⟩ (.slice (some ⟨gg, 0, none⟩) (n + 1) cap)).cell? ⟨p, 0, none⟩ = some (.slice (some ⟨g, 0, none⟩) (n + 1) cap') ∧
      (w1.setCell ⟨p, 0, none⟩ (.slice (some ⟨gg, 0, none⟩) (n + 1) cap)).ownsRow base 3 1 (.slice (some ⟨g, 0, none⟩) (n + 1) cap') (n + 1) ys ∧ Below base w (w1.setCell ⟨p, 0, none⟩ (.slice (some ⟨gg, 0, none⟩) (n + 1) cap)) := by
  have hgp : gg ≠ p := by
    rcases hat with h | h
    · intro e; subst e; exact hne h
    · omega
  refine ⟨gg, cap, cell_of_one (one_setCell hp1), ownsRow_setCell_other hown1 (by simpa [Value.ownBlock] using hgp) _, ?_⟩
  have hsz : (w.alloc o).heap.size = w.heap.size + 1 := by simp
  have b1 : Below base w ((w.alloc o).drew) := ((Below.refl base w).alloc hbase o).drew
  exact (b1.grown hgrow (by show base ≤ (w.alloc o).heap.size; omega) (fun k hk => (hown.lt k hk).1)).setCell hbp _

set_option maxRecDepth 100000 in
set_option maxHeartbeats 1600000 in
theorem push22 (p base n : Nat) (x : Int) (v : Value) (xs : List Value) (w : World)
    (hp : w.heap[p]? = some (.cells #[v] 33 (0, 0))) (hown : w.ownsRow base 3 1 v n xs) (hbase : base ≤ w.heap.size) (hbp : base ≤ p) (hne : v.ownBlock ≠ some p) (hn : n < 16777216) :
    Calls Try.prog 22 #[.pointer (some ⟨p, 0, none⟩), .iface 3 (.int .i64 x)] w fun e w' => e = .returned (.tuple #[]) ∧ ∃ g cap,
      w'.cell? ⟨p, 0, none⟩ = some (.slice (some ⟨g, 0, none⟩) (n + 1) cap) ∧ w'.ownsRow base 3 1 (.slice (some ⟨g, 0, none⟩) (n + 1) cap) (n + 1) (xs ++ [.int .i64 x]) ∧ Below base w w' := by
  obtain ⟨i0, hi0, hz0, hz1, hz2⟩ := info_parts Try.info3
  have hta : ∀ w : World, (Instr.typeAssert (.iface 3 (.int .i64 x)) 20 3 false).run Try.prog w = .ok (.int .i64 x) w := fun _ => by kernel_rfl
  have hc := cell_of_one hp
  have hf := free_of_one hp
  have lp := World.block_lt_of_cell? w _ hc
  go_enter Try.func22, Try.ntmps22
  go_wp2_with fail
  go_region_law
    ((refine step_append_lies _ (by rfl) _ _ _ (by rfl) base 3 i0 (.int .i64 0) 1 8 Try.underlying33 hi0 hz0 hz1 hz2 rfl (by omega) v n xs (by rfl) ((hown.alloc _).drew)
        ⟨w.heap.size, 0, none⟩ 1 1 [.int .i64 x] (by rfl) (by rfl) (World.news_of_block (cs := #[.int .i64 x]) (t := 3) (fr := (0, 0)) (heap_alloc_new w _)) (by simp [Value.oneCell'])
        (by omega) (by unfold maxLen; omega) (by omega) (by simp; omega) (w.heap.size + 1) (by simp) ?_; intro gg cap w1 hown1 hgrow hat hlt; have hp1 := after_app hp hgrow hne; have hc1 := cell_of_one hp1; have hf1 := free_of_one hp1))
  all_goals
    go_end0
    exact ⟨rfl, push_end hown hbase hbp hne lp hown1 hgrow hat hp1⟩

/-- What owns a row is a slice of its length. -/
theorem own_slice {w : World} {base n : Nat} {v : Value} {xs : List Value} (h : w.ownsRow base 3 1 v n xs) : ∃ ao c, v = .slice ao n c := by
  rcases h.2 with ⟨rfl, rfl⟩ | ⟨g, cap, cur, rfl, _⟩
  · exact ⟨_, _, rfl⟩
  · exact ⟨_, _, rfl⟩

set_option maxHeartbeats 800000 in
theorem push17_slice (base n c : Nat) (x : Int) (ao : Option Addr) (xs : List Value) (w : World) (hown : w.ownsRow base 3 1 (.slice ao n c) n xs) (hbase : base ≤ w.heap.size) (hn : n < 16777216) :
    Calls Try.prog 17 #[.slice ao n c, .int .i64 x] w fun e w' => ∃ g cap, e = .returned (.slice (some ⟨g, 0, none⟩) (n + 1) cap) ∧ w'.ownsRow base 3 1 (.slice (some ⟨g, 0, none⟩) (n + 1) cap) (n + 1) (xs ++ [.int .i64 x]) ∧ Below base w w' := by
  have hne : (Value.slice ao n c).ownBlock ≠ some w.heap.size := fun h => by have := (hown.lt _ h).2; omega
  have hp : (w.alloc (.cells #[.slice ao n c] 33)).heap[w.heap.size]? = some (.cells #[.slice ao n c] 33 (0, 0)) := heap_alloc_new w _
  have hb1 : base ≤ (w.alloc (.cells #[.slice ao n c] 33)).heap.size := by simp; omega
  have b1 : Below base w (w.alloc (.cells #[.slice ao n c] 33)) := (Below.refl base w).alloc hbase _
  have K := push22 w.heap.size base n x (.slice ao n c) xs (w.alloc (.cells #[.slice ao n c] 33)) hp (hown.alloc _) hb1 hbase hne hn
  go_enter Try.func17, Try.ntmps17
  go_wp2_with fail
  refine K.mono ?_
  rintro e w' ⟨rfl, g, cap, hcl, hown', hbel⟩
  clear K hp hb1 hne hown
  go_wp2
  go_ret
  exact ⟨g, cap, rfl, hown', b1.trans hbel⟩

/-- ZZpushIndexHeap: onto a slice of the caller's own. -/
theorem push17 (base n : Nat) (x : Int) (v : Value) (xs : List Value) (w : World) (hown : w.ownsRow base 3 1 v n xs) (hbase : base ≤ w.heap.size) (hn : n < 16777216) :
    Calls Try.prog 17 #[v, .int .i64 x] w fun e w' => ∃ g cap, e = .returned (.slice (some ⟨g, 0, none⟩) (n + 1) cap) ∧ w'.ownsRow base 3 1 (.slice (some ⟨g, 0, none⟩) (n + 1) cap) (n + 1) (xs ++ [.int .i64 x]) ∧ Below base w w' := by
  obtain ⟨ao, c, rfl⟩ := own_slice hown
  exact push17_slice base n c x ao xs w hown hbase hn
end Go.Proofs.Qxb6612291a
