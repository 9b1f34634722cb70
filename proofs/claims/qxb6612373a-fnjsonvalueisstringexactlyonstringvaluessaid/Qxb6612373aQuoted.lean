import Derived.Test.Qxb6612373aBase
namespace Go.Proofs.Qxb6612373a
open Go.ChangeShapes Go.WideShapes Go.ChangeAt Go.RowKit
set_option linter.unusedVariables false

theorem hex11 (d : Int) (w : World) : Calls Try.prog 11 #[.int .u8 d] w fun e w' => (∃ z, e = .returned (.int .u8 z)) ∧ w' = w := by
  by_cases h : d < 10
  · go_enter Try.func11, Try.ntmps11
    go_wp2
    go_ret
    exact ⟨⟨_, rfl⟩, rfl⟩
  · go_enter Try.func11, Try.ntmps11
    go_wp2
    go_ret
    exact ⟨⟨_, rfl⟩, rfl⟩

/-- What appendEscaped says: at most six bytes more. -/
def EscEnd (B : Nat) (w : World) (n : Nat) (xs : List Int) (e : Ending) (w' : World) : Prop :=
  ∃ g' cap' m ys, e = .returned (.slice (some ⟨g', 0, none⟩) (n + m) cap') ∧ m ≤ 6 ∧ Own B w' g' (n + m) cap' (xs ++ ys) ∧ Below B w w'

set_option maxHeartbeats 400000 in
theorem esc_plain (B g n cap : Nat) (xs : List Int) (c : Int) (w : World) (hown : Own B w g n cap xs) (hb : n + 6 ≤ 16777216) (h1 : 32 ≤ c) (h2 : (c != 34) = true) (h3 : (c != 92) = true) :
    Calls Try.prog 9 #[.slice (some ⟨g, 0, none⟩) n cap, .int .u8 c] w (EscEnd B w n xs) := by
  go_enter Try.func9, Try.ntmps9
  go_wp2_with (at_builtin; refine wpList_app rfl _ _ rfl B g n cap 1 1 xs [c] rfl rfl (by omega) rfl rfl hown (by omega) ?_; intro g' cap' w' r1 r2 r3)
  go_ret
  exact ⟨g', cap', 1, [c], rfl, by omega, r1, r2⟩

set_option maxHeartbeats 400000 in
theorem esc_q (B g n cap : Nat) (xs : List Int) (w : World) (hown : Own B w g n cap xs) (hb : n + 6 ≤ 16777216) :
    Calls Try.prog 9 #[.slice (some ⟨g, 0, none⟩) n cap, .int .u8 34] w (EscEnd B w n xs) := by
  go_enter Try.func9, Try.ntmps9
  go_wp2_with (at_builtin; refine wpList_app rfl _ _ rfl B g n cap 2 2 xs [92, 34] rfl rfl (by omega) rfl rfl hown (by omega) ?_; intro g' cap' w' r1 r2 r3)
  go_ret
  exact ⟨g', cap', 2, [92, 34], rfl, by omega, r1, r2⟩

set_option maxHeartbeats 400000 in
theorem esc_s (B g n cap : Nat) (xs : List Int) (w : World) (hown : Own B w g n cap xs) (hb : n + 6 ≤ 16777216) :
    Calls Try.prog 9 #[.slice (some ⟨g, 0, none⟩) n cap, .int .u8 92] w (EscEnd B w n xs) := by
  go_enter Try.func9, Try.ntmps9
  go_wp2_with (at_builtin; refine wpList_app rfl _ _ rfl B g n cap 2 2 xs [92, 92] rfl rfl (by omega) rfl rfl hown (by omega) ?_; intro g' cap' w' r1 r2 r3)
  go_ret
  exact ⟨g', cap', 2, [92, 92], rfl, by omega, r1, r2⟩

set_option maxHeartbeats 400000 in
theorem esc_b (B g n cap : Nat) (xs : List Int) (w : World) (hown : Own B w g n cap xs) (hb : n + 6 ≤ 16777216) :
    Calls Try.prog 9 #[.slice (some ⟨g, 0, none⟩) n cap, .int .u8 8] w (EscEnd B w n xs) := by
  go_enter Try.func9, Try.ntmps9
  go_wp2_with (at_builtin; refine wpList_app rfl _ _ rfl B g n cap 2 2 xs [92, 98] rfl rfl (by omega) rfl rfl hown (by omega) ?_; intro g' cap' w' r1 r2 r3)
  go_ret
  exact ⟨g', cap', 2, [92, 98], rfl, by omega, r1, r2⟩

set_option maxHeartbeats 400000 in
theorem esc_t (B g n cap : Nat) (xs : List Int) (w : World) (hown : Own B w g n cap xs) (hb : n + 6 ≤ 16777216) :
    Calls Try.prog 9 #[.slice (some ⟨g, 0, none⟩) n cap, .int .u8 9] w (EscEnd B w n xs) := by
  go_enter Try.func9, Try.ntmps9
  go_wp2_with (at_builtin; refine wpList_app rfl _ _ rfl B g n cap 2 2 xs [92, 116] rfl rfl (by omega) rfl rfl hown (by omega) ?_; intro g' cap' w' r1 r2 r3)
  go_ret
  exact ⟨g', cap', 2, [92, 116], rfl, by omega, r1, r2⟩

set_option maxHeartbeats 400000 in
theorem esc_n (B g n cap : Nat) (xs : List Int) (w : World) (hown : Own B w g n cap xs) (hb : n + 6 ≤ 16777216) :
    Calls Try.prog 9 #[.slice (some ⟨g, 0, none⟩) n cap, .int .u8 10] w (EscEnd B w n xs) := by
  go_enter Try.func9, Try.ntmps9
  go_wp2_with (at_builtin; refine wpList_app rfl _ _ rfl B g n cap 2 2 xs [92, 110] rfl rfl (by omega) rfl rfl hown (by omega) ?_; intro g' cap' w' r1 r2 r3)
  go_ret
  exact ⟨g', cap', 2, [92, 110], rfl, by omega, r1, r2⟩

set_option maxHeartbeats 400000 in
theorem esc_f (B g n cap : Nat) (xs : List Int) (w : World) (hown : Own B w g n cap xs) (hb : n + 6 ≤ 16777216) :
    Calls Try.prog 9 #[.slice (some ⟨g, 0, none⟩) n cap, .int .u8 12] w (EscEnd B w n xs) := by
  go_enter Try.func9, Try.ntmps9
  go_wp2_with (at_builtin; refine wpList_app rfl _ _ rfl B g n cap 2 2 xs [92, 102] rfl rfl (by omega) rfl rfl hown (by omega) ?_; intro g' cap' w' r1 r2 r3)
  go_ret
  exact ⟨g', cap', 2, [92, 102], rfl, by omega, r1, r2⟩

set_option maxHeartbeats 400000 in
theorem esc_r (B g n cap : Nat) (xs : List Int) (w : World) (hown : Own B w g n cap xs) (hb : n + 6 ≤ 16777216) :
    Calls Try.prog 9 #[.slice (some ⟨g, 0, none⟩) n cap, .int .u8 13] w (EscEnd B w n xs) := by
  go_enter Try.func9, Try.ntmps9
  go_wp2_with (at_builtin; refine wpList_app rfl _ _ rfl B g n cap 2 2 xs [92, 114] rfl rfl (by omega) rfl rfl hown (by omega) ?_; intro g' cap' w' r1 r2 r3)
  go_ret
  exact ⟨g', cap', 2, [92, 114], rfl, by omega, r1, r2⟩

set_option maxHeartbeats 800000 in
theorem esc_u (B g n cap : Nat) (xs : List Int) (c : Int) (w : World) (hown : Own B w g n cap xs) (hb : n + 6 ≤ 16777216) (h0 : 0 ≤ c) (h1 : c < 32) (h2 : (c == 8) = false) (h3 : (c == 9) = false) (h4 : (c == 10) = false) (h5 : (c == 12) = false) (h6 : (c == 13) = false) :
    Calls Try.prog 9 #[.slice (some ⟨g, 0, none⟩) n cap, .int .u8 c] w (EscEnd B w n xs) := by
  have h7 : (c == 34) = false := by simp; omega
  have h8 : (c == 92) = false := by simp; omega
  go_enter Try.func9, Try.ntmps9
  go_wp2_with (first | (go_at_call 11; refine (hex11 _ _).mono ?_; rintro e w' ⟨⟨z, rfl⟩, hw⟩; obtain rfl := hw.symm) | (at_builtin; refine wpList_app rfl _ _ rfl B g n cap 6 6 xs [92, 117, 48, 48, _, _] rfl rfl (by omega) rfl rfl hown (by omega) ?_; intro g' cap' w' r1 r2 r3))
  go_ret
  exact ⟨g', cap', 6, _, rfl, by omega, r1, r2⟩

/-- appendEscaped: at most six bytes more. -/
theorem esc_any (B g n cap : Nat) (xs : List Int) (c : Int) (w : World) (hown : Own B w g n cap xs) (hb : n + 6 ≤ 16777216) (h0 : 0 ≤ c) :
    Calls Try.prog 9 #[.slice (some ⟨g, 0, none⟩) n cap, .int .u8 c] w (EscEnd B w n xs) := by
  by_cases c1 : c = 34
  · subst c1; exact esc_q B g n cap xs w hown hb
  by_cases c2 : c = 92
  · subst c2; exact esc_s B g n cap xs w hown hb
  by_cases c3 : 32 ≤ c
  · exact esc_plain B g n cap xs c w hown hb c3 (by simp [c1]) (by simp [c2])
  by_cases c4 : c = 8
  · subst c4; exact esc_b B g n cap xs w hown hb
  by_cases c5 : c = 9
  · subst c5; exact esc_t B g n cap xs w hown hb
  by_cases c6 : c = 10
  · subst c6; exact esc_n B g n cap xs w hown hb
  by_cases c7 : c = 12
  · subst c7; exact esc_f B g n cap xs w hown hb
  by_cases c8 : c = 13
  · subst c8; exact esc_r B g n cap xs w hown hb
  exact esc_u B g n cap xs c w hown hb h0 (by omega) (by simp [c4]) (by simp [c5]) (by simp [c6]) (by simp [c7]) (by simp [c8])
end Go.Proofs.Qxb6612373a
