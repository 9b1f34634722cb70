import Derived.Test.Qxb6612373aRows
import Derived.WalkKit
import Derived.WalkSpells
import Derived.ProofKit
import Derived.Below
import Derived.OwnWalk
import Derived.OneCell
import Derived.Deep.AppendLies
import Derived.Lib.AppendStr
import Derived.Laws.BytesArg
import Derived.Outline
namespace Go.Proofs.Qxb6612373a
open Go.ChangeShapes Go.WideShapes Go.ChangeAt Go.RowKit
set_option linter.unusedVariables false

theorem Try.info5 : (Try.prog.info? 5).map (fun i => (i.zero, i.size, i.bytes)) = some (some (.int .u8 0), 1, 1) := by kernel_rfl

/-- The slice at block g owns the bytes xs. -/
def Own (B : Nat) (w : World) (g n cap : Nat) (xs : List Int) : Prop :=
  w.ownsRow B 5 1 (.slice (some ⟨g, 0, none⟩) n cap) n (xs.map (Value.int .u8)) ∧ B ≤ w.heap.size
theorem Own.len {B : Nat} {w : World} {g n cap : Nat} {xs : List Int} (h : Own B w g n cap xs) : xs.length = n := by simpa using h.1.1
theorem Own.lt {B : Nat} {w : World} {g n cap : Nat} {xs : List Int} (h : Own B w g n cap xs) : B ≤ g ∧ g < w.heap.size := h.1.lt g rfl
theorem Own.alloc {B : Nat} {w : World} {g n cap : Nat} {xs : List Int} (h : Own B w g n cap xs) (o : Obj) : Own B (w.alloc o) g n cap xs := ⟨h.1.alloc o, by have := h.2; simp; omega⟩
theorem Own.cell {B : Nat} {w : World} {g n cap : Nat} {xs : List Int} (h : Own B w g n cap xs) {i : Nat} (hi : i < n) : w.cell? ⟨g, i, none⟩ = some (.int .u8 (xs.getD i 0)) := by
  have hl := h.len
  rw [h.1.cellAt i (by omega)]
  simp [List.getElem?_eq_getElem (show i < xs.length from by omega)]

/-- A string's bytes as numbers. -/
def nums (s : ByteArray) : List Int := s.data.toList.map fun b => (b.toNat : Int)
theorem nums_length (s : ByteArray) : (nums s).length = s.size := by rw [nums, List.length_map, Array.length_toList]; rfl
theorem strCells_nums (s : ByteArray) : Lib.strCells s = (nums s).map (Value.int .u8) := by simp [Lib.strCells, nums]

theorem app_rel {B : Nat} {w w' : World} {g n cap m g' cap' : Nat} {xs ys : List Int} (hown : Own B w g n cap xs)
    (h1 : w'.ownsRow B 5 1 (.slice (some ⟨g', 0, none⟩) (n + m) cap') (n + m) (xs.map (Value.int .u8) ++ ys.map (Value.int .u8))) (h2 : w.grownBy w' (some g)) : Own B w' g' (n + m) cap' (xs ++ ys) ∧ Below B w w' := by
  refine ⟨⟨by rw [List.map_append]; exact h1, Nat.le_trans hown.2 h2.size⟩, (Below.refl B w).grown h2 hown.2 ?_⟩
  intro k hk
  have := hown.lt
  simp only [Option.some.injEq] at hk
  omega

section
variable {ops : Array Oper} {rest : List Oper} {o : Oper} {a : Act} {Q : Exit → Act → World → Prop}

/-- append(b, src...): the new bytes lie at 'ad'. -/
theorem wpList_app_at {w : World} (hgd : o.guard = none) (s x : Operand) (ho : o.op = .call { callee := .builtin .append, args := #[s, x], argTypes := #[23, 23] })
    (B g n cap m c : Nat) (xs ys : List Int) (ad : Addr) (hm : ys.length = m) (h0 : 0 < m) (hs : a.eval s = .slice (some ⟨g, 0, none⟩) n cap) (hx : a.eval x = .slice (some ad) m c)
    (hnews : ∀ j u, (ys.map (Value.int .u8))[j]? = some u → w.cell? (ad.add j) = some u) (hown : Own B w g n cap xs) (hb : n + m ≤ 16777216)
    (h : ∀ g' cap' w', Own B w' g' (n + m) cap' (xs ++ ys) → Below B w w' → w.heap.size ≤ w'.heap.size → wpList Try.prog ops Q rest (a.put o.dst (.slice (some ⟨g', 0, none⟩) (n + m) cap')) w') : wpList Try.prog ops Q (o :: rest) a w := by
  obtain ⟨i0, hi0, hz0, hz1, hz2⟩ := info_parts Try.info5
  refine wpList_append_lies w hgd s x 23 ho B 5 i0 (.int .u8 0) 1 1 Try.underlying23 hi0 hz0 hz1 hz2 rfl (by omega) (.slice (some ⟨g, 0, none⟩) n cap) n (xs.map (Value.int .u8)) hs hown.1 ad m c (ys.map (Value.int .u8)) hx (by simp [hm]) hnews
    (by intro u hu; simp at hu; obtain ⟨z, _, rfl⟩ := hu; rfl) h0 (by unfold maxLen; omega) (by omega) hown.2 _ rfl ?_
  intro g' cap' w' h1 h2 _ _
  obtain ⟨r1, r2⟩ := app_rel hown h1 h2
  exact h g' cap' w' r1 r2 r2.size

/-- append(b, c0, c1, ..): the new bytes have just been laid in a block of their own. -/
theorem wpList_app {w : World} {cs : Array Value} (hgd : o.guard = none) (s x : Operand) (ho : o.op = .call { callee := .builtin .append, args := #[s, x], argTypes := #[23, 23] })
    (B g n cap m c : Nat) (xs ys : List Int) (hcs : cs.toList = ys.map (Value.int .u8)) (hm : ys.length = m) (h0 : 0 < m) (hs : a.eval s = .slice (some ⟨g, 0, none⟩) n cap) (hx : a.eval x = .slice (some ⟨w.heap.size, 0, none⟩) m c)
    (hown : Own B w g n cap xs) (hb : n + m ≤ 16777216)
    (h : ∀ g' cap' w', Own B w' g' (n + m) cap' (xs ++ ys) → Below B w w' → w.heap.size ≤ w'.heap.size → wpList Try.prog ops Q rest (a.put o.dst (.slice (some ⟨g', 0, none⟩) (n + m) cap')) w') : wpList Try.prog ops Q (o :: rest) a (w.alloc (.cells cs 5)) := by
  refine wpList_app_at hgd s x ho B g n cap m c xs ys ⟨w.heap.size, 0, none⟩ hm h0 hs hx ?_ (hown.alloc _) hb ?_
  · rw [← hcs]
    exact World.news_of_block (heap_alloc_new w _)
  · intro g' cap' w' r1 r2 r3
    have hb1 : Below B w (w.alloc (.cells cs 5)) := (Below.refl B w).alloc hown.2 _
    exact h g' cap' w' r1 (hb1.trans r2) (hb1.trans r2).size

/-- append(b, s...), s a string. -/
theorem wpList_app_str {w : World} (hgd : o.guard = none) (s x : Operand) (ho : o.op = .call { callee := .builtin .append, args := #[s, x], argTypes := #[23, 9] })
    (B g n cap : Nat) (xs : List Int) (str : ByteArray) (hs : a.eval s = .slice (some ⟨g, 0, none⟩) n cap) (hx : a.eval x = .string str)
    (hown : Own B w g n cap xs) (hb : n + str.size ≤ 16777216)
    (h : ∀ g' cap' w', Own B w' g' (n + str.size) cap' (xs ++ nums str) → Below B w w' → w.heap.size ≤ w'.heap.size → wpList Try.prog ops Q rest (a.put o.dst (.slice (some ⟨g', 0, none⟩) (n + str.size) cap')) w') : wpList Try.prog ops Q (o :: rest) a w := by
  obtain ⟨i0, hi0, hz0, hz1, hz2⟩ := info_parts Try.info5
  refine Lib.wpList_append_own_string w hgd s x 23 9 ho B 5 i0 Try.underlying23 Try.underlying9 hi0 hz0 hz1 hz2 (.slice (some ⟨g, 0, none⟩) n cap) n (xs.map (Value.int .u8)) hs hown.1 str hx (by unfold maxLen; omega) (by omega) hown.2 ?_
  intro v' w' h1 h2 h3
  rcases h1.2 with ⟨hv, _⟩ | ⟨g', cap', cur, rfl, _⟩
  · have := (h3.1 hv).1
    simp at this
  · rw [strCells_nums] at h1
    obtain ⟨r1, r2⟩ := app_rel hown h1 h2
    exact h g' cap' w' r1 r2 r2.size
end
end Go.Proofs.Qxb6612373a
