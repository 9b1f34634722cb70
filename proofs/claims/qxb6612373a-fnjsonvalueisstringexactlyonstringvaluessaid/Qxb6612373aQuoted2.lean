import Derived.Test.Qxb6612373aQuoted
namespace Go.Proofs.Qxb6612373a
open Go.ChangeShapes Go.WideShapes Go.ChangeAt Go.RowKit
set_option linter.unusedVariables false

/-- The loop's relation in appendQuoted. -/
def QInv (B : Nat) (w : World) (n0 : Nat) (xs : List Int) (wr : World) (g n cap k : Nat) : Prop :=
  ∃ ys, Own B wr g n cap (xs ++ 34 :: ys) ∧ Below B w wr ∧ n0 + 1 ≤ n ∧ n ≤ n0 + 1 + 6 * k

set_option maxHeartbeats 1600000 in
/-- appendQuoted: a quotation mark, then more. -/
theorem quoted5 (B g n cap : Nat) (xs : List Int) (s : ByteArray) (w : World) (hown : Own B w g n cap xs) (hs : s.size ≤ 65536) (hb : n ≤ 8388608) :
    Calls Try.prog 5 #[.slice (some ⟨g, 0, none⟩) n cap, .string s] w fun e w' =>
      ∃ g' n' cap' ys, e = .returned (.slice (some ⟨g', 0, none⟩) n' cap') ∧ Own B w' g' n' cap' (xs ++ 34 :: ys) ∧ Below B w w' ∧ n + 2 ≤ n' ∧ n' ≤ n + 2 + 6 * s.size := by
  go_enter Try.func5, Try.ntmps5
  go_wp2_with (at_builtin; refine wpList_app rfl (.tmp 6) (.tmp 7) rfl B g n cap 1 1 xs [34] rfl rfl (by omega) rfl rfl hown (by omega) ?_; intro g1 cap1 w1 r1 r2 r3)
  go_loopw [0, 5] (fun v t wr => ∃ k : Nat, k ≤ s.size ∧ t = .int .i64 k ∧ ∃ g' n' cap', v = .slice (some ⟨g', 0, none⟩) n' cap' ∧ QInv B w n xs wr g' n' cap' k) (fun _ t _ => s.size - (intOf t).toNat)
  case atStart => exact ⟨0, Nat.zero_le _, rfl, g1, n + 1, cap1, rfl, [], r1, r2, by omega, by omega⟩
  case round =>
    clear r1 r2 r3 hown
    obtain ⟨k, hk, rfl, g', n', cap', rfl, ys, hown, hbel, hn1, hn2⟩ := hrel
    by_cases hlt : k < s.size
    · have hkI : (k : Int) < (s.size : Int) := by omega
      go_wp2_with (go_at_call 9; refine (esc_any B g' n' cap' (xs ++ 34 :: ys) _ _ hown (by omega) (by omega)).mono ?_; rintro e w' ⟨g2, cap2, m, zs, rfl, hm, ho2, hb2⟩)
      go_roundw
      case rel => exact ⟨k + 1, by omega, by go_num, g2, n' + m, cap2, rfl, ys ++ zs, by rw [List.append_assoc] at ho2; exact ho2, hbel.trans hb2, by omega, by omega⟩
      case measure => simp [intOf]; omega
    · go_wp2_with (at_builtin; refine wpList_app rfl (.tmp 20) (.tmp 21) rfl B g' n' cap' 1 1 (xs ++ 34 :: ys) [34] rfl rfl (by omega) rfl rfl hown (by omega) ?_; intro g2 cap2 w2 r1 r2 r3)
      go_ret
      exact ⟨g2, n' + 1, cap2, ys ++ [34], rfl, by rw [List.append_assoc] at r1; exact r1, hbel.trans r2, by omega, by omega⟩
end Go.Proofs.Qxb6612373a
