import Derived.Test.Qxb6612373aFacts
import Derived.Deep.RegionWith
namespace Go.Proofs.Qxb6612373a
open Go.ChangeShapes Go.WideShapes Go.ChangeAt Go.RowKit
set_option linter.unusedVariables false

set_option maxRecDepth 100000 in
set_option maxHeartbeats 400000 in
theorem walk3_bytes (p s q : ByteArray) (x : Int) (w : World) (m0 : p.size ≤ maxLen) (m1 : s.size ≤ maxLen) (m2 : q.size ≤ maxLen) (h : ¬ p.size + s.size + q.size ≤ 1048576) :
    Calls Try.prog 3 #[.string p, .string s, .string q, .int .i64 x] w fun e w' => e = .returned (.bool true) ∧ Below w.heap.size w w' := by
  go_enter Try.func3, Try.ntmps3
  go_wp2_with (go_at_call 4; refine (bytes4_no p s q x m0 m1 m2 h _).mono ?_; rintro e w' ⟨rfl, rfl⟩)
  go_ret
  exact ⟨rfl, Below.refl _ _⟩

set_option maxRecDepth 100000 in
set_option maxHeartbeats 800000 in
theorem walk3_long (p s q : ByteArray) (x : Int) (w : World) (h : p.size + s.size + q.size ≤ 1048576) (hl : ¬ (p.size ≤ 65536 ∧ s.size ≤ 65536 ∧ q.size ≤ 65536)) :
    Calls Try.prog 3 #[.string p, .string s, .string q, .int .i64 x] w fun e w' => e = .returned (.bool true) ∧ Below w.heap.size w w' := by
  by_cases h1 : (65536 : Int) < (p.size : Int)
  · clear hl
    go_enter Try.func3, Try.ntmps3
    go_wp2_with (go_at_call 4; refine (bytes4_ok p s q x h _).mono ?_; rintro e w' ⟨rfl, rfl⟩)
    go_ret
    exact ⟨rfl, Below.refl _ _⟩
  by_cases h2 : (65536 : Int) < (s.size : Int)
  · clear hl
    go_enter Try.func3, Try.ntmps3
    go_wp2_with (go_at_call 4; refine (bytes4_ok p s q x h _).mono ?_; rintro e w' ⟨rfl, rfl⟩)
    go_ret
    exact ⟨rfl, Below.refl _ _⟩
  have h3 : (65536 : Int) < (q.size : Int) := by omega
  clear hl
  go_enter Try.func3, Try.ntmps3
  go_wp2_with (go_at_call 4; refine (bytes4_ok p s q x h _).mono ?_; rintro e w' ⟨rfl, rfl⟩)
  go_ret
  exact ⟨rfl, Below.refl _ _⟩

set_option maxRecDepth 100000 in
set_option maxHeartbeats 1600000 in
theorem walk3_main (p s q : ByteArray) (x : Int) (w : World) (hp : p.size ≤ 65536) (hs : s.size ≤ 65536) (hq : q.size ≤ 65536) (hx1 : -9223372036854775808 ≤ x) (hx2 : x ≤ 9223372036854775807) :
    Calls Try.prog 3 #[.string p, .string s, .string q, .int .i64 x] w fun e w' => e = .returned (.bool true) ∧ Below w.heap.size w w' := by
  have k1 : decide ((65536 : Int) < (p.size : Int)) = false := decide_eq_false (by omega)
  have k2 : decide ((65536 : Int) < (s.size : Int)) = false := decide_eq_false (by omega)
  have k3 : decide ((65536 : Int) < (q.size : Int)) = false := decide_eq_false (by omega)
  obtain ⟨C, hC⟩ : ∃ C : Nat, C = p.size + q.size + 20 * s.size + 128 := ⟨_, rfl⟩
  have hmk := make23 C (by omega)
  have hCI : (C : Int) = (p.size : Int) + (q.size : Int) + 20 * (s.size : Int) + 128 := by omega
  rw [hCI] at hmk
  have r0 := st_made C (by omega) w
  clear hC hCI
  go_enter Try.func3, Try.ntmps3
  go_wp2_with (first
    | (go_at_call 4; refine (bytes4_ok p s q x (by omega) _).mono ?_; rintro e w' ⟨rfl, hw⟩; obtain rfl := hw.symm)
    | (at_builtin; refine step_str rfl (.tmp 55) (.tmp 56) rfl w.heap.size w.heap.size 0 C _ p p.size (nums p) rfl rfl rfl rfl r0 (by omega) (by omega) ?_; intro g1 n1 c1 w1 a1 b1 r1)
    | (go_at_call_of 5 (Value.slice (some ⟨g1, 0, none⟩) n1 c1); refine (step_quoted w.heap.size g1 n1 c1 _ s w _ r1 (by omega) (by omega)).mono ?_; rintro e w2 ⟨g2, n2, c2, y2, rfl, r2, a2, b2⟩)
    | (at_builtin; refine step_app rfl (.tmp 65) (.tmp 66) rfl w.heap.size g2 n2 c2 _ 32 rfl rfl rfl r2 (by omega) ?_; intro g3 n3 c3 w3 a3 b3 r3)
    | (go_at_call_of 6 (Value.slice (some ⟨g3, 0, none⟩) n3 c3); refine (step_dec w.heap.size g3 n3 c3 _ x w _ r3 (by omega) hx1 hx2).mono ?_; rintro e w4 ⟨g4, n4, c4, d4, y4, rfl, r4, a4, b4, e4⟩)
    | (at_builtin; refine step_app rfl (.tmp 75) (.tmp 76) rfl w.heap.size g4 n4 c4 _ 32 rfl rfl rfl r4 (by omega) ?_; intro g5 n5 c5 w5 a5 b5 r5)
    | (at_builtin; refine step_app rfl (.tmp 80) (.tmp 81) rfl w.heap.size g5 n5 c5 _ 91 rfl rfl rfl r5 (by omega) ?_; intro g6 n6 c6 w6 a6 b6 r6)
    | (go_at_call_of 5 (Value.slice (some ⟨g6, 0, none⟩) n6 c6); refine (step_quoted w.heap.size g6 n6 c6 _ s w _ r6 (by omega) (by omega)).mono ?_; rintro e w7 ⟨g7, n7, c7, y7, rfl, r7, a7, b7⟩)
    | (at_builtin; refine step_app rfl (.tmp 86) (.tmp 87) rfl w.heap.size g7 n7 c7 _ 93 rfl rfl rfl r7 (by omega) ?_; intro g8 n8 c8 w8 a8 b8 r8)
    | (at_builtin; refine step_app rfl (.tmp 91) (.tmp 92) rfl w.heap.size g8 n8 c8 _ 32 rfl rfl rfl r8 (by omega) ?_; intro g9 n9 c9 w9 a9 b9 r9)
    | (at_builtin; refine step_app rfl (.tmp 96) (.tmp 97) rfl w.heap.size g9 n9 c9 _ 123 rfl rfl rfl r9 (by omega) ?_; intro g10 n10 c10 w10 a10 b10 r10)
    | (go_at_call_of 5 (Value.slice (some ⟨g10, 0, none⟩) n10 c10); refine (step_quoted w.heap.size g10 n10 c10 _ s w _ r10 (by omega) (by omega)).mono ?_; rintro e w11 ⟨g11, n11, c11, y11, rfl, r11, a11, b11⟩)
    | (at_builtin; refine step_app rfl (.tmp 106) (.tmp 107) rfl w.heap.size g11 n11 c11 _ 58 rfl rfl rfl r11 (by omega) ?_; intro g12 n12 c12 w12 a12 b12 r12)
    | (go_at_call_of 6 (Value.slice (some ⟨g12, 0, none⟩) n12 c12); refine (step_dec w.heap.size g12 n12 c12 _ x w _ r12 (by omega) hx1 hx2).mono ?_; rintro e w13 ⟨g13, n13, c13, d13, y13, rfl, r13, a13, b13, e13⟩)
    | (at_builtin; refine step_app rfl (.tmp 112) (.tmp 113) rfl w.heap.size g13 n13 c13 _ 125 rfl rfl rfl r13 (by omega) ?_; intro g14 n14 c14 w14 a14 b14 r14)
    | (at_builtin; refine step_app rfl (.tmp 117) (.tmp 118) rfl w.heap.size g14 n14 c14 _ 32 rfl rfl rfl r14 (by omega) ?_; intro g15 n15 c15 w15 a15 b15 r15)
    | (at_builtin; refine step_str rfl (.tmp 122) (.const (.string ⟨#[116, 114, 117, 101]⟩)) rfl w.heap.size g15 n15 c15 _ ⟨#[116, 114, 117, 101]⟩ 4 [116, 114, 117, 101] rfl rfl rfl rfl r15 (by omega) (by omega) ?_; intro g16 n16 c16 w16 a16 b16 r16)
    | (at_builtin; refine step_app rfl (.tmp 126) (.tmp 127) rfl w.heap.size g16 n16 c16 _ 32 rfl rfl rfl r16 (by omega) ?_; intro g17 n17 c17 w17 a17 b17 r17)
    | (at_builtin; refine step_str rfl (.tmp 131) (.const (.string ⟨#[110, 117, 108, 108]⟩)) rfl w.heap.size g17 n17 c17 _ ⟨#[110, 117, 108, 108]⟩ 4 [110, 117, 108, 108] rfl rfl rfl rfl r17 (by omega) (by omega) ?_; intro g18 n18 c18 w18 a18 b18 r18)
    | (at_builtin; refine step_str rfl (.tmp 135) (.tmp 136) rfl w.heap.size g18 n18 c18 _ q q.size (nums q) rfl rfl rfl rfl r18 (by omega) (by omega) ?_; intro g19 n19 c19 w19 a19 b19 r19; obtain ⟨T, t1, t2, hcv, q1, q2, q3, q4, q5, q6, q7⟩ := facts (n2 := n2) (n4 := n4) (n8 := n8) (n11 := n11) (n14 := n14) (n16 := n16) (n18 := n18) r1 r3 r5 r9 r10 r15 r17 r19 (by omega) (by omega) (by omega) (by omega) (by omega) (by omega) (by omega) e4; have u19 := r19.up)
    | (go_at_call 7; refine (step_is w.heap.size w T _ _ _ (by assumption) (by omega) (by omega) (by omega)).mono ?_; rintro e w20 ⟨rfl, u20⟩)
    | (go_at_call 8; refine (step_no w.heap.size w _ (by assumption)).mono ?_; rintro e w20 ⟨rfl, u20⟩))
  go_ret
  exact ⟨rfl, u20.1⟩
end Go.Proofs.Qxb6612373a
