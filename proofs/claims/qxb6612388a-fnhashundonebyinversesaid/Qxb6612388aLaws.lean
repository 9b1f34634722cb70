import Derived.Test.Qxb6612388aWalks
import Derived.Deep.RegionWith
namespace Go.Proofs.Qxb6612388a
open Go.ChangeShapes Go.WideShapes Go.ChangeAt Go.RowKit
set_option linter.unusedVariables false

/-- What hash computes. -/
def hashI (s n : Int) : Int := mixI (xorI s (mixI n))
theorem hashI_U (s n : Int) : U (hashI s n) := mixI_U _

set_option maxHeartbeats 400000 in
theorem hash8 (s n : Int) (hs : U s) (hn : U n) (w : World) : Calls Try.prog 8 #[.agg #[.int .u64 s, .int .u64 n]] w fun e w' => e = .returned (.int .u64 (hashI s n)) ∧ Below w.heap.size w w' := by
  have hx := bits_xorI hs (mixI_U n)
  have hxu := xorI_U hs (mixI_U n)
  go_enter Try.func8, Try.ntmps8
  go_wp2
  go_quiet ((first | (go_at_call_of 10 (Value.int IntKind.u64 n); exact Calls.quiet_of_same (mix10 n hn _)) | (go_at_call 10; exact Calls.quiet_of_same (mix10 _ hxu _))))
  go_wp2
  go_ret
  exact ⟨rfl, below_drewN ((Below.refl _ _).alloc (Nat.le_refl _) _) _⟩

set_option maxHeartbeats 400000 in
theorem call5 (s n : Int) (hs : U s) (hn : U n) (w : World) : Calls Try.prog 5 #[.agg #[.int .u64 s, .int .u64 n]] w fun e w' => e = .returned (.int .u64 (hashI s n)) ∧ Below w.heap.size w w' := by
  have hb1 : ∀ o, Below w.heap.size w (w.alloc o) := fun o => (Below.refl w.heap.size w).alloc (Nat.le_refl _) o
  go_enter Try.func5, Try.ntmps5
  go_wp2_with (go_at_call 8; refine (hash8 s n hs hn _).mono ?_; rintro e w1 ⟨rfl, hb⟩)
  go_ret
  exact ⟨rfl, (hb1 _).trans (hb.mono (by simp))⟩

set_option maxHeartbeats 400000 in
theorem new6 (s n : Int) (w : World) : Calls Try.prog 6 #[.int .u64 s, .int .u64 n] w fun e w' => e = .returned (.agg #[.int .u64 s, .int .u64 n]) ∧ Below w.heap.size w w' := by
  go_enter Try.func6, Try.ntmps6
  go_wp2
  exact bodyPost_ret (v := .agg #[.int .u64 s, .int .u64 n]) (by simp [results, Try.results6, go_sem]) rfl ⟨rfl, (Below.refl _ _).alloc (Nat.le_refl _) _⟩

/-- Nothing old has turned. -/
def Up (B : Nat) (w0 w : World) : Prop := Below B w0 w ∧ B ≤ w.heap.size
theorem Up.step {B : Nat} {w0 w w' : World} (h : Up B w0 w) (hb : Below w.heap.size w w') : Up B w0 w' := ⟨h.1.trans (hb.mono h.2), Nat.le_trans h.2 hb.size⟩
theorem Up.refl (w : World) : Up w.heap.size w w := ⟨Below.refl _ _, Nat.le_refl _⟩

/-- A function on Nat, at Int. -/
def liftI (f : Nat → Nat) (x : Int) : Int := ((f x.toNat : Nat) : Int)
theorem undo_abs (f u : Nat → Nat) (h : ∀ s n, s < 18446744073709551616 → n < 18446744073709551616 → u (u (f (s ^^^ f n)) ^^^ s) = n) (s n : Int) (hs : U s) (hn : U n) :
    liftI u (xorI (liftI u (liftI f (xorI s (liftI f n)))) s) = n := by
  obtain ⟨S, rfl, hS⟩ := hs.nat
  obtain ⟨N, rfl, hN⟩ := hn.nat
  simp only [liftI, xorI, Int.toNat_natCast]
  rw [h S N hS hN]
theorem xor_abs (f u : Nat → Nat) (h : ∀ s t n, s < 18446744073709551616 → t < 18446744073709551616 → u (f (s ^^^ f n)) ^^^ u (f (t ^^^ f n)) = s ^^^ t) (s t n : Int) (hs : U s) (ht : U t) (hn : U n) :
    xorI (liftI u (liftI f (xorI s (liftI f n)))) (liftI u (liftI f (xorI t (liftI f n)))) = xorI s t := by
  obtain ⟨S, rfl, hS⟩ := hs.nat
  obtain ⟨T, rfl, hT⟩ := ht.nat
  obtain ⟨N, rfl, hN⟩ := hn.nat
  simp only [liftI, xorI, Int.toNat_natCast]
  rw [h S T N hS hT]
theorem mixI_lift : mixI = liftI mixN := rfl
theorem unmixI_lift : unmixI = liftI unmixN := rfl
theorem undo_law (s n : Int) (hs : U s) (hn : U n) : unmixI (xorI (unmixI (hashI s n)) s) = n := by
  unfold hashI
  rw [mixI_lift, unmixI_lift]
  exact undo_abs mixN unmixN law_undo s n hs hn
theorem xor_law (s1 s2 n : Int) (h1 : U s1) (h2 : U s2) (hn : U n) : xorI (unmixI (hashI s1 n)) (unmixI (hashI s2 n)) = xorI s1 s2 := by
  unfold hashI
  rw [mixI_lift, unmixI_lift]
  exact xor_abs mixN unmixN law_xor s1 s2 n h1 h2 hn

set_option maxHeartbeats 400000 in
theorem law3 (s n : Int) (hs : U s) (hn : U n) (w : World) : Calls Try.prog 3 #[.int .u64 s, .int .u64 n] w fun e w' => e = .returned (.bool true) ∧ Below w.heap.size w w' := by
  have e1 := bits_xorI (unmixI_U (hashI s n)) hs
  have e1u := xorI_U (unmixI_U (hashI s n)) hs
  have e2 : (unmixI (xorI (unmixI (hashI s n)) s) == n) = true := by rw [undo_law s n hs hn]; simp
  have u0 := Up.refl w
  go_enter Try.func3, Try.ntmps3
  go_wp2_with (first
    | (go_at_call 6; refine (new6 s n _).mono ?_; rintro e w1 ⟨rfl, b1⟩; have u1 := u0.step b1)
    | (go_at_call 5; refine (call5 s n hs hn _).mono ?_; rintro e w2 ⟨rfl, b2⟩; have u2 := u1.step b2)
    | (go_at_call_of 7 (Value.int IntKind.u64 (hashI s n)); refine (unmix7 _ (hashI_U s n) _).mono ?_; rintro e w3 ⟨rfl, hw⟩; obtain rfl := hw.symm)
    | (go_at_call 7; refine (unmix7 _ e1u _).mono ?_; rintro e w3 ⟨rfl, hw⟩; obtain rfl := hw.symm))
  go_ret
  exact ⟨rfl, u2.1⟩

set_option maxHeartbeats 400000 in
theorem law4 (s1 s2 n : Int) (h1 : U s1) (h2 : U s2) (hn : U n) (w : World) : Calls Try.prog 4 #[.int .u64 s1, .int .u64 s2, .int .u64 n] w fun e w' => e = .returned (.bool true) ∧ Below w.heap.size w w' := by
  have e1 := bits_xorI (unmixI_U (hashI s1 n)) (unmixI_U (hashI s2 n))
  have e2 := bits_xorI h1 h2
  have e3 : (xorI (unmixI (hashI s1 n)) (unmixI (hashI s2 n)) == xorI s1 s2) = true := by rw [xor_law s1 s2 n h1 h2 hn]; simp
  have u0 := Up.refl w
  go_enter Try.func4, Try.ntmps4
  go_wp2_with (fail)
  refine (new6 s1 n _).mono ?_
  rintro e w1 ⟨rfl, b1⟩
  have u1 := u0.step b1
  go_wp2_with (fail)
  refine (call5 s1 n h1 hn _).mono ?_
  rintro e w2 ⟨rfl, b2⟩
  have u2 := u1.step b2
  go_wp2_with (fail)
  refine (new6 s2 n _).mono ?_
  rintro e w3 ⟨rfl, b3⟩
  have u3 := u2.step b3
  go_wp2_with (fail)
  refine (call5 s2 n h2 hn _).mono ?_
  rintro e w4 ⟨rfl, b4⟩
  have u4 := u3.step b4
  go_wp2_with (fail)
  refine (unmix7 _ (hashI_U s1 n) _).mono ?_
  rintro e w5 ⟨rfl, hw⟩
  obtain rfl := hw.symm
  go_wp2_with (fail)
  refine (unmix7 _ (hashI_U s2 n) _).mono ?_
  rintro e w5 ⟨rfl, hw⟩
  obtain rfl := hw.symm
  go_wp2
  go_ret
  exact ⟨rfl, u4.1⟩
end Go.Proofs.Qxb6612388a
