import Derived.Test.Qxb6612373aQuoted2
import Derived.Test.Qxb6612373aDec
import Derived.Test.Qxb6612373aIs
namespace Go.Proofs.Qxb6612373a
open Go.ChangeShapes Go.WideShapes Go.ChangeAt Go.RowKit
set_option linter.unusedVariables false

/-- The state between two steps of the law: b's slice owns L; nothing old has turned. -/
def St (B : Nat) (w0 w : World) (g n cap : Nat) (L : List Int) : Prop := Own B w g n cap L ∧ Below B w0 w
/-- Nothing old has turned. -/
def Up (B : Nat) (w0 w : World) : Prop := Below B w0 w ∧ B ≤ w.heap.size
theorem St.up {B : Nat} {w0 w : World} {g n cap : Nat} {L : List Int} (h : St B w0 w g n cap L) : Up B w0 w := ⟨h.2, h.1.2⟩

section
variable {ops : Array Oper} {rest : List Oper} {o : Oper} {a : Act} {Q : Exit → Act → World → Prop}

theorem step_app {w0 w : World} {cs : Array Value} (hgd : o.guard = none) (s x : Operand) (ho : o.op = .call { callee := .builtin .append, args := #[s, x], argTypes := #[23, 23] })
    (B g n cap : Nat) (xs : List Int) (c : Int) (hcs : cs.toList = [Value.int .u8 c]) (hs : a.eval s = .slice (some ⟨g, 0, none⟩) n cap) (hx : a.eval x = .slice (some ⟨w.heap.size, 0, none⟩) 1 1)
    (hst : St B w0 w g n cap xs) (hb : n ≤ 8388608)
    (h : ∀ g' N cap' w', n + 1 ≤ N → N ≤ n + 1 → St B w0 w' g' N cap' (xs ++ c :: []) → wpList Try.prog ops Q rest (a.put o.dst (.slice (some ⟨g', 0, none⟩) N cap')) w') : wpList Try.prog ops Q (o :: rest) a (w.alloc (.cells cs 5)) := by
  refine wpList_app hgd s x ho B g n cap 1 1 xs [c] hcs rfl (by omega) hs hx hst.1 (by omega) ?_
  intro g' cap' w' r1 r2 r3
  exact h g' (n + 1) cap' w' (Nat.le_refl _) (Nat.le_refl _) ⟨r1, hst.2.trans r2⟩

theorem step_str {w0 w : World} (hgd : o.guard = none) (s x : Operand) (ho : o.op = .call { callee := .builtin .append, args := #[s, x], argTypes := #[23, 9] })
    (B g n cap : Nat) (xs : List Int) (str : ByteArray) (m : Nat) (M : List Int) (hm : str.size = m) (hM : nums str = M) (hs : a.eval s = .slice (some ⟨g, 0, none⟩) n cap) (hx : a.eval x = .string str)
    (hst : St B w0 w g n cap xs) (hb : n ≤ 8388608) (hb2 : m ≤ 65536)
    (h : ∀ g' N cap' w', n + m ≤ N → N ≤ n + m → St B w0 w' g' N cap' (xs ++ M) → wpList Try.prog ops Q rest (a.put o.dst (.slice (some ⟨g', 0, none⟩) N cap')) w') : wpList Try.prog ops Q (o :: rest) a w := by
  subst hm hM
  refine wpList_app_str hgd s x ho B g n cap xs str hs hx hst.1 (by omega) ?_
  intro g' cap' w' r1 r2 r3
  exact h g' (n + str.size) cap' w' (Nat.le_refl _) (Nat.le_refl _) ⟨r1, hst.2.trans r2⟩
end

theorem step_quoted (B g n cap : Nat) (xs : List Int) (s : ByteArray) (w0 w : World) (hst : St B w0 w g n cap xs) (hs : s.size ≤ 65536) (hb : n ≤ 8388608) :
    Calls Try.prog 5 #[.slice (some ⟨g, 0, none⟩) n cap, .string s] w fun e w' =>
      ∃ g' n' cap' ys, e = .returned (.slice (some ⟨g', 0, none⟩) n' cap') ∧ St B w0 w' g' n' cap' (xs ++ 34 :: ys) ∧ n + 2 ≤ n' ∧ n' ≤ n + 2 + 6 * s.size :=
  (quoted5 B g n cap xs s w hst.1 hs hb).mono fun e w' ⟨g', n', cap', ys, h1, h2, h3, h4, h5⟩ => ⟨g', n', cap', ys, h1, ⟨h2, hst.2.trans h3⟩, h4, h5⟩

theorem step_dec (B g n cap : Nat) (xs : List Int) (x : Int) (w0 w : World) (hst : St B w0 w g n cap xs) (hb : n ≤ 8388608) (hx1 : -9223372036854775808 ≤ x) (hx2 : x ≤ 9223372036854775807) :
    Calls Try.prog 6 #[.slice (some ⟨g, 0, none⟩) n cap, .int .i64 x] w fun e w' =>
      ∃ g' n' cap' d ys, e = .returned (.slice (some ⟨g', 0, none⟩) n' cap') ∧ St B w0 w' g' n' cap' (xs ++ d :: ys) ∧ n + 1 ≤ n' ∧ n' ≤ n + 21 ∧ (d = 45 ∨ (48 ≤ d ∧ d ≤ 57)) :=
  (dec6 B g n cap xs x w hst.1 hb hx1 hx2).mono fun e w' ⟨g', n', cap', d, ys, h1, h2, h3, h4, h5, h6⟩ => ⟨g', n', cap', d, ys, h1, ⟨h2, hst.2.trans h3⟩, h4, h5, h6⟩

theorem step_is (B : Nat) (w0 : World) (text : ByteArray) (f t : Nat) (w : World) (hup : Up B w0 w) (hft : f ≤ t) (ht : t ≤ text.size) (hsz : text.size ≤ 16777216) :
    Calls Try.prog 7 #[.string text, .int .i64 f, .int .i64 t] w fun e w' => e = .returned (.bool (isQ (text.extract f t))) ∧ Up B w0 w' :=
  (json7 text f t w hft ht hsz).mono fun e w' ⟨h1, h2⟩ => ⟨h1, hup.1.trans (h2.mono hup.2), Nat.le_trans hup.2 h2.size⟩

theorem step_no (B : Nat) (w0 : World) (w : World) (hup : Up B w0 w) : Calls Try.prog 8 #[] w fun e w' => e = .returned (.bool false) ∧ Up B w0 w' :=
  (no8 w).mono fun e w' ⟨h1, h2⟩ => ⟨h1, hup.1.trans (h2.mono hup.2), Nat.le_trans hup.2 h2.size⟩

/-- The byte at a place of the text. -/
def At (L : List Int) (f : Nat) (c : Int) : Prop := L[f]? = some c
theorem At.app {L : List Int} {f : Nat} {c : Int} (h : At L f c) (M : List Int) : At (L ++ M) f c := by
  unfold At at h ⊢
  rw [List.getElem?_append_left (List.getElem?_eq_some_iff.1 h).1]; exact h
theorem St.at {B : Nat} {w0 w : World} {g n cap : Nat} {L : List Int} (h : St B w0 w g n cap L) (c : Int) (M : List Int) : At (L ++ c :: M) n c := by
  unfold At
  have := h.1.len
  rw [List.getElem?_append_right (by omega), this, Nat.sub_self]
  rfl

/-- string(b): and where its parts begin with a quotation mark. -/
theorem text_of {B : Nat} {w0 w : World} {g n cap : Nat} {L : List Int} (h : St B w0 w g n cap L) :
    ∃ T : ByteArray, n ≤ T.size ∧ T.size ≤ n ∧ (convert 23 9 (.slice (some ⟨g, 0, none⟩) n cap)).run Try.prog w = .ok (.string T) w ∧
      Hid (∀ f t c, f < t → At L f c → isQ (T.extract f t) = (UInt8.ofNat c.toNat == 34)) := by
  have hl := h.1.len
  refine ⟨strOfNums L, by rw [strOfNums_size]; omega, by rw [strOfNums_size]; omega, ?_, fun f t c h1 h2 => isQ_part L f t c h1 h2⟩
  refine run_convert_bytes_arg w 23 5 Try.underlying23 Try.underlying5 g 0 n cap L hl ?_ 9 Try.underlying9
  intro i hi
  rw [Nat.zero_add]
  exact h.1.cell hi

theorem dig_no (d : Int) (h : d = 45 ∨ (48 ≤ d ∧ d ≤ 57)) : (UInt8.ofNat d.toNat == 34) = false := by
  have h1 : d.toNat = 45 ∨ (48 ≤ d.toNat ∧ d.toNat ≤ 57) := by omega
  generalize d.toNat = m at h1
  have h2 : UInt8.ofNat m ≠ 34 := by
    intro e
    have := congrArg UInt8.toNat e
    simp at this
    omega
  simpa using h2

/-- make([]byte, 0, c) -/
theorem make23 (c : Nat) (hc : c ≤ 16777216) (w : World) : (Instr.makeSlice 23 (.int .i64 0) (.int .i64 (c : Int))).run Try.prog w = .ok (.slice (some ⟨w.heap.size, 0, none⟩) 0 c) (w.alloc (.cells (madeCells #[.int .u8 0] c) 5)) := by
  obtain ⟨i0, hi0, hz0, hz1, hz2⟩ := info_parts Try.info5
  have hr := run_make (P := Try.prog) w 23 5 i0 (.int .u8 0) Try.underlying23 hi0 hz0 .i64 .i64 0 c (by omega) (by omega) (by rw [hz2]; omega) (by omega)
  rw [hz1] at hr
  simpa [Value.cells] using hr

theorem st_made (c : Nat) (hc : c ≤ 16777216) (w : World) : St w.heap.size w (w.alloc (.cells (madeCells #[.int .u8 0] c) 5)) w.heap.size 0 c [] :=
  ⟨⟨World.ownsRow_made (base := w.heap.size) (e := 5) (size := 1) w (madeCells #[.int .u8 0] c) c (Nat.le_refl _) (by unfold maxLen; omega) (by simp [madeCells]), by simp⟩, (Below.refl _ _).alloc (Nat.le_refl _) _⟩

/-! ### the guard on lengths -/
set_option maxHeartbeats 400000 in
theorem bytes4_ok (p s q : ByteArray) (x : Int) (h : p.size + s.size + q.size ≤ 1048576) (w : World) :
    Calls Try.prog 4 #[.string p, .string s, .string q, .int .i64 x] w fun e w' => e = .returned (.bool true) ∧ w' = w := by
  have h0 : ¬ (1048576 : Int) < (p.size : Int) := by omega
  have h1 : ¬ (1048576 : Int) < (s.size : Int) := by omega
  have h2 : ¬ (1048576 : Int) < (q.size : Int) := by omega
  go_enter Try.func4, Try.ntmps4
  go_wp2
  go_ret
  exact ⟨rfl, rfl⟩

set_option maxHeartbeats 800000 in
theorem bytes4_no (p s q : ByteArray) (x : Int) (m0 : p.size ≤ maxLen) (m1 : s.size ≤ maxLen) (m2 : q.size ≤ maxLen) (h : ¬ p.size + s.size + q.size ≤ 1048576) (w : World) :
    Calls Try.prog 4 #[.string p, .string s, .string q, .int .i64 x] w fun e w' => e = .returned (.bool false) ∧ w' = w := by
  unfold maxLen at m0 m1 m2
  by_cases h0 : (1048576 : Int) < (p.size : Int)
  · go_enter Try.func4, Try.ntmps4
    go_wp2
    go_ret
    exact ⟨rfl, rfl⟩
  by_cases h1 : (1048576 : Int) < (s.size : Int)
  · go_enter Try.func4, Try.ntmps4
    go_wp2
    go_ret
    exact ⟨rfl, rfl⟩
  by_cases h3 : (1048576 : Int) < (p.size : Int) + (s.size : Int)
  · go_enter Try.func4, Try.ntmps4
    go_wp2
    go_ret
    exact ⟨rfl, rfl⟩
  by_cases h2 : (1048576 : Int) < (q.size : Int)
  · go_enter Try.func4, Try.ntmps4
    go_wp2
    go_ret
    exact ⟨rfl, rfl⟩
  have h4 : (1048576 : Int) < (p.size : Int) + (s.size : Int) + (q.size : Int) := by omega
  go_enter Try.func4, Try.ntmps4
  go_wp2
  go_ret
  exact ⟨rfl, rfl⟩
end Go.Proofs.Qxb6612373a
