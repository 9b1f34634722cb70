import Derived.Test.Qxb6612373aBase
import Derived.Lib.Strings
import Derived.Deep.QuietTactic
import Derived.BigQuiet
import Derived.WalkSmall
import Derived.WalkLawsBesides
namespace Go.Proofs.Qxb6612373a
open Go.ChangeShapes Go.WideShapes Go.ChangeAt Go.RowKit
set_option linter.unusedVariables false

/-- It begins with a quotation mark. -/
def isQ (s : ByteArray) : Bool := (s.extract 0 1).toList == [34]

theorem isQ_data (s : ByteArray) : isQ s = (s.data.toList.take 1 == [34]) := by
  unfold isQ
  rw [ByteArray.toList_eq, Lib.extract_data]
  simp

theorem isQ_empty (s : ByteArray) (h : s.size = 0) : isQ s = false := by
  rw [isQ_data]
  have : s.data.toList = [] := List.eq_nil_of_length_eq_zero (by rw [Array.length_toList]; exact h)
  rw [this]
  rfl

/-- A part of a text of bytes xs that begins with the byte c. -/
theorem isQ_part (xs : List Int) (f t : Nat) (c : Int) (h1 : f < t) (hc : xs[f]? = some c) : isQ ((strOfNums xs).extract f t) = (UInt8.ofNat c.toNat == 34) := by
  rw [isQ_data, Lib.extract_data, strOfNums_data]
  have e : ((xs.map fun n => UInt8.ofNat n.toNat).drop f).take (t - f) = UInt8.ofNat c.toNat :: ((xs.map fun n => UInt8.ofNat n.toNat).drop (f + 1)).take (t - f - 1) := by
    have hf : f < (xs.map fun n => UInt8.ofNat n.toNat).length := by
      rw [List.length_map]; exact (List.getElem?_eq_some_iff.1 hc).1
    rw [List.drop_eq_getElem_cons hf]
    obtain ⟨m, hm⟩ : ∃ m, t - f = m + 1 := ⟨t - f - 1, by omega⟩
    rw [hm, List.take_succ_cons]
    have : xs[f]'(by simpa using hf) = c := (List.getElem?_eq_some_iff.1 hc).2
    simp [this]
  rw [e]
  simp

set_option maxHeartbeats 400000 in
theorem has14 (s : ByteArray) (hs : s.size ≤ 16777216) (w : World) : Calls Try.prog 14 #[.string s, .string ⟨#[34]⟩] w fun e w' => e = .returned (.bool (isQ s)) ∧ w' = w := by
  by_cases h : s.size = 0
  · have h1 : decide ((1 : Int) ≤ (s.size : Int)) = false := by simp [h]
    rw [isQ_empty s h]
    go_enter Try.func14, Try.ntmps14
    go_wp2
    go_ret
    exact ⟨rfl, rfl⟩
  · have h1 : (1 : Int) ≤ (s.size : Int) := by omega
    go_enter Try.func14, Try.ntmps14
    go_wp2
    go_ret
    exact ⟨rfl, rfl⟩

set_option maxHeartbeats 400000 in
theorem has12 (s : ByteArray) (hs : s.size ≤ 16777216) (w : World) : Calls Try.prog 12 #[.string s, .string ⟨#[34]⟩] w fun e w' => e = .returned (.bool (isQ s)) ∧ w' = w := by
  go_enter Try.func12, Try.ntmps12
  go_wp2_with (go_at_call 14; refine (has14 s hs _).mono ?_; rintro e w' ⟨rfl, rfl⟩)
  go_ret
  exact ⟨rfl, rfl⟩

set_option maxHeartbeats 400000 in
theorem raw13_none (f t : Int) (w : World) : Calls Try.prog 13 #[.agg #[.pointer none, .int .i64 f, .int .i64 t]] w fun e w' => e = .returned (.string ⟨#[]⟩) ∧ Below w.heap.size w w' := by
  go_enter Try.func13, Try.ntmps13
  go_wp2
  go_ret
  exact ⟨rfl, (Below.refl _ _).alloc (Nat.le_refl _) _⟩

set_option maxHeartbeats 800000 in
theorem raw13 (T : Nat) (text : ByteArray) (f t : Nat) (w : World) (hc : w.cell? ⟨T, 0, none⟩ = some (.string text)) (hft : f ≤ t) (ht : t ≤ text.size) (hsz : text.size ≤ 16777216) :
    Calls Try.prog 13 #[.agg #[.pointer (some ⟨T, 0, none⟩), .int .i64 f, .int .i64 t]] w fun e w' => e = .returned (.string (text.extract f t)) ∧ Below w.heap.size w w' := by
  have hlt : T < w.heap.size := World.block_lt_of_cell? w _ hc
  have hne : ¬ w.heap.size = T := by omega
  have hftI : (f : Int) ≤ (t : Int) := by omega
  have htI : (t : Int) ≤ (text.size : Int) := by omega
  have hc1 : ∀ o, (w.alloc o).cell? ⟨T, 0, none⟩ = some (.string text) := fun o => ((Below.refl w.heap.size w).alloc (Nat.le_refl _) o).cell (p := ⟨T, 0, none⟩) hlt |>.trans hc
  go_enter Try.func13, Try.ntmps13
  go_wp2
  go_quiet (fail)
  go_wp2
  go_ret
  exact ⟨rfl, below_drewN ((Below.refl _ _).alloc (Nat.le_refl _) _) _⟩

theorem isQ_nil : isQ ⟨#[]⟩ = false := isQ_empty _ rfl

set_option maxHeartbeats 800000 in
theorem is10 (T : Nat) (text : ByteArray) (f t : Nat) (w : World) (hc : w.cell? ⟨T, 0, none⟩ = some (.string text)) (hft : f ≤ t) (ht : t ≤ text.size) (hsz : text.size ≤ 16777216) :
    Calls Try.prog 10 #[.agg #[.pointer (some ⟨T, 0, none⟩), .int .i64 f, .int .i64 t]] w fun e w' => e = .returned (.bool (isQ (text.extract f t))) ∧ Below w.heap.size w w' := by
  have hlt : T < w.heap.size := World.block_lt_of_cell? w _ hc
  have hne : ¬ w.heap.size = T := by omega
  have hc1 : ∀ o, (w.alloc o).cell? ⟨T, 0, none⟩ = some (.string text) := fun o => ((Below.refl w.heap.size w).alloc (Nat.le_refl _) o).cell (p := ⟨T, 0, none⟩) hlt |>.trans hc
  have hb1 : ∀ o, Below w.heap.size w (w.alloc o) := fun o => (Below.refl w.heap.size w).alloc (Nat.le_refl _) o
  have hxs : (text.extract f t).size ≤ 16777216 := by
    have : (text.extract f t).size ≤ text.size := by
      show (text.extract f t).data.size ≤ text.size
      rw [← Array.length_toList, Lib.extract_data]
      simp
      have : text.data.size = text.size := rfl
      omega
    omega
  go_enter Try.func10, Try.ntmps10
  go_wp2_with (first | (go_at_call 13; refine (raw13 T text f t _ (hc1 _) hft ht hsz).mono ?_; rintro e w1 ⟨rfl, hb⟩) | (go_at_call 12; refine (has12 _ hxs _).mono ?_; rintro e w2 ⟨rfl, hw⟩; obtain rfl := hw.symm))
  go_ret
  exact ⟨rfl, (hb1 _).trans (hb.mono (by simp))⟩

set_option maxHeartbeats 800000 in
theorem no10 (w : World) : Calls Try.prog 10 #[.agg #[.pointer none, .int .i64 0, .int .i64 0]] w fun e w' => e = .returned (.bool false) ∧ Below w.heap.size w w' := by
  have hb1 : ∀ o, Below w.heap.size w (w.alloc o) := fun o => (Below.refl w.heap.size w).alloc (Nat.le_refl _) o
  go_enter Try.func10, Try.ntmps10
  go_wp2_with (first | (go_at_call 13; refine (raw13_none 0 0 _).mono ?_; rintro e w1 ⟨rfl, hb⟩) | (go_at_call 12; refine (has12 _ (by decide) _).mono ?_; rintro e w2 ⟨rfl, hw⟩; obtain rfl := hw.symm))
  go_ret
  exact ⟨by simp [isQ_nil], (hb1 _).trans (hb.mono (by simp))⟩

set_option maxHeartbeats 800000 in
/-- ZZjsonIsString: does text[f:t] begin with a quotation mark? -/
theorem json7 (text : ByteArray) (f t : Nat) (w : World) (hft : f ≤ t) (ht : t ≤ text.size) (hsz : text.size ≤ 16777216) :
    Calls Try.prog 7 #[.string text, .int .i64 f, .int .i64 t] w fun e w' => e = .returned (.bool (isQ (text.extract f t))) ∧ Below w.heap.size w w' := by
  have hb1 : ∀ o, Below w.heap.size w (w.alloc o) := fun o => (Below.refl w.heap.size w).alloc (Nat.le_refl _) o
  go_enter Try.func7, Try.ntmps7
  go_wp2_with (go_at_call 10; refine (is10 w.heap.size text f t _ ?_ hft ht hsz).mono ?_; simp; rintro e w1 ⟨rfl, hb⟩)
  go_ret
  exact ⟨rfl, (hb1 _).trans (hb.mono (by simp))⟩

set_option maxHeartbeats 800000 in
theorem no8 (w : World) : Calls Try.prog 8 #[] w fun e w' => e = .returned (.bool false) ∧ Below w.heap.size w w' := by
  go_enter Try.func8, Try.ntmps8
  go_wp2_with (go_at_call 10; refine (no10 _).mono ?_; rintro e w1 ⟨rfl, hb⟩)
  go_ret
  exact ⟨rfl, hb⟩
end Go.Proofs.Qxb6612373a
