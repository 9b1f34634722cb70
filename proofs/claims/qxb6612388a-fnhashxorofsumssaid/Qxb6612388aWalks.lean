import Derived.Test.Qxb6612388aRows
import Derived.Test.Qxb6612388aPlain
import Derived.WalkKit
import Derived.WalkSpells
import Derived.ProofKit
import Derived.Below
import Derived.WalkSmall
import Derived.Laws.Bits64
import Derived.Deep.QuietTactic
import Derived.BigQuiet
import Derived.Outline
namespace Go.Proofs.Qxb6612388a
open Go.ChangeShapes Go.WideShapes Go.ChangeAt Go.RowKit
set_option linter.unusedVariables false

/-! ### the arithmetic in the walk's own spelling -/
/-- A word. -/
def U (x : Int) : Prop := 0 ≤ x ∧ x < 18446744073709551616
theorem U.nat {x : Int} (h : U x) : ∃ X : Nat, x = (X : Int) ∧ X < 18446744073709551616 := by
  obtain ⟨X, rfl⟩ := Int.eq_ofNat_of_zero_le h.1
  exact ⟨X, rfl, by have := h.2; omega⟩
theorem U.of (X : Nat) (h : X < 18446744073709551616) : U (X : Int) := ⟨by omega, by omega⟩

def mixI (x : Int) : Int := ((mixN x.toNat : Nat) : Int)
def unmixI (x : Int) : Int := ((unmixN x.toNat : Nat) : Int)
def xorI (x y : Int) : Int := ((x.toNat ^^^ y.toNat : Nat) : Int)
theorem mixI_U (x : Int) : U (mixI x) := U.of _ (mixN_lt _)
theorem unmixI_U (x : Int) : U (unmixI x) := U.of _ (unmixN_lt _)
theorem bits_xorI {x y : Int} (hx : U x) (hy : U y) : bits .xor .u64 x y = xorI x y := by
  obtain ⟨X, rfl, hX⟩ := hx.nat
  obtain ⟨Y, rfl, hY⟩ := hy.nat
  rw [bits_xor_u64_nat X Y hX hY]
  simp [xorI]
theorem xorI_U {x y : Int} (hx : U x) (hy : U y) : U (xorI x y) := by
  obtain ⟨X, rfl, hX⟩ := hx.nat
  obtain ⟨Y, rfl, hY⟩ := hy.nat
  exact U.of _ (xor_lt (by simpa using hX) (by simpa using hY))

theorem mix_spell (x : Int) (hx : U x) :
    bits .xor .u64 (IntKind.u64.wrap (bits .xor .u64 (IntKind.u64.wrap (bits .xor .u64 x (x / 1073741824) * 13787848793156543929)) (IntKind.u64.wrap (bits .xor .u64 x (x / 1073741824) * 13787848793156543929) / 134217728) * 10723151780598845931))
      (IntKind.u64.wrap (bits .xor .u64 (IntKind.u64.wrap (bits .xor .u64 x (x / 1073741824) * 13787848793156543929)) (IntKind.u64.wrap (bits .xor .u64 x (x / 1073741824) * 13787848793156543929) / 134217728) * 10723151780598845931) / 2147483648) = mixI x := by
  obtain ⟨X, rfl, hX⟩ := hx.nat
  have e1 := mixStep_u64 X 1073741824 13787848793156543929 hX
  have l1 : (X ^^^ X / 1073741824) * 13787848793156543929 % 18446744073709551616 < 18446744073709551616 := Nat.mod_lt _ (by decide)
  have e2 := mixStep_u64 _ 134217728 10723151780598845931 l1
  have e3 := fun l => xorShift_u64 ((((X ^^^ X / 1073741824) * 13787848793156543929 % 18446744073709551616) ^^^ ((X ^^^ X / 1073741824) * 13787848793156543929 % 18446744073709551616) / 134217728) * 10723151780598845931 % 18446744073709551616) 2147483648 l
  have e3 := e3 (Nat.mod_lt _ (by decide))
  simp only [Int.cast_ofNat_Int] at e1 e2 e3
  rw [e1, e2, e3]
  simp [mixI, mixN]

set_option maxHeartbeats 400000 in
theorem mix10 (x : Int) (hx : U x) (w : World) : Calls Try.prog 10 #[.int .u64 x] w fun e w' => e = .returned (.int .u64 (mixI x)) ∧ w' = w := by
  have hs := mix_spell x hx
  have h0 : 0 ≤ x := hx.1
  rw [← hs]
  clear hs
  go_enter Try.func10, Try.ntmps10
  go_wp2
  go_ret
  exact ⟨rfl, rfl⟩

/-! ### zzInv: Newton's iteration -/
def newt (c : Int) : Nat → Int
  | 0 => c
  | k + 1 => IntKind.u64.wrap (newt c k * IntKind.u64.wrap (2 - IntKind.u64.wrap (c * newt c k)))
theorem newt_succ (c : Int) (k : Nat) : newt c (k + 1) = IntKind.u64.wrap (newt c k * IntKind.u64.wrap (2 - IntKind.u64.wrap (c * newt c k))) := rfl
theorem newt_c2 : newt 10723151780598845931 6 = 3573116690164977347 := by decide +kernel
theorem newt_c1 : newt 13787848793156543929 6 = 10871156337175269513 := by decide +kernel

set_option maxHeartbeats 400000 in
theorem inv9 (c : Int) (w : World) : Calls Try.prog 9 #[.int .u64 c] w fun e w' => e = .returned (.int .u64 (newt c 6)) ∧ w' = w := by
  go_enter Try.func9, Try.ntmps9
  go_wp2
  go_loop [3, 4] (fun u t => ∃ k : Nat, k ≤ 6 ∧ t = .int .i64 k ∧ ∃ z, Hid (z = newt c k) ∧ u = .int .u64 z) (fun _ t => 6 - (intOf t).toNat)
  case atStart => exact ⟨0, by omega, rfl, c, rfl, rfl⟩
  case round =>
    obtain ⟨k, hk, rfl, z, hz, rfl⟩ := hrel
    by_cases hlt : k < 6
    · have hs : Hid (newt c (k + 1) = IntKind.u64.wrap (z * IntKind.u64.wrap (2 - IntKind.u64.wrap (c * z)))) := by
        show _ = _
        rw [newt_succ, ← hz.out]
      have hkI : (k : Int) < 6 := by omega
      go_wp2
      go_round
      case rel => exact ⟨k + 1, by omega, by go_num, _, hs.out.symm, rfl⟩
      case measure => simp [intOf]; omega
    · have hke : k = 6 := by omega
      subst hke
      go_wp2
      go_ret
      have e : Ending.returned (.int .u64 z) = .returned (.int .u64 (newt c 6)) := by rw [hz.out]
      exact ⟨e, rfl⟩

/-! ### zzUnmix -/
theorem unstep_spell (X s t C : Nat) (hX : X < 18446744073709551616) :
    IntKind.u64.wrap (bits .xor .u64 (bits .xor .u64 (X : Int) ((X : Int) / (s : Int))) ((X : Int) / (t : Int)) * (C : Int)) = ((((X ^^^ X / s) ^^^ X / t) * C % 18446744073709551616 : Nat) : Int) := by
  rw [xorShift_u64 X s hX, ← Int.natCast_ediv X t, bits_xor_u64_nat _ _ (xorshift_lt hX) (Nat.lt_of_le_of_lt (Nat.div_le_self _ _) hX), IntKind.wrap_u64]
  rw [Int.natCast_emod, Int.natCast_mul]
  rfl
theorem unlast_spell (X s t : Nat) (hX : X < 18446744073709551616) :
    bits .xor .u64 (bits .xor .u64 (X : Int) ((X : Int) / (s : Int))) ((X : Int) / (t : Int)) = (((X ^^^ X / s) ^^^ X / t : Nat) : Int) := by
  rw [xorShift_u64 X s hX, ← Int.natCast_ediv X t, bits_xor_u64_nat _ _ (xorshift_lt hX) (Nat.lt_of_le_of_lt (Nat.div_le_self _ _) hX)]

/-- The two inner steps, in the walk's own spelling. -/
def un1 (x : Int) : Int := IntKind.u64.wrap (bits .xor .u64 (bits .xor .u64 x (x / 2147483648)) (x / 4611686018427387904) * newt 10723151780598845931 6)
def un2 (x : Int) : Int := IntKind.u64.wrap (bits .xor .u64 (bits .xor .u64 x (x / 134217728)) (x / 18014398509481984) * newt 13787848793156543929 6)
def un3 (x : Int) : Int := bits .xor .u64 (bits .xor .u64 x (x / 1073741824)) (x / 1152921504606846976)

theorem unmix_spell (x : Int) (hx : U x) : un3 (un2 (un1 x)) = unmixI x := by
  obtain ⟨X, rfl, hX⟩ := hx.nat
  have e1 := unstep_spell X 2147483648 4611686018427387904 3573116690164977347 hX
  have e2 := fun l => unstep_spell (((X ^^^ X / 2147483648) ^^^ X / 4611686018427387904) * 3573116690164977347 % 18446744073709551616) 134217728 18014398509481984 10871156337175269513 l
  have e2 := e2 (Nat.mod_lt _ (by decide))
  have e3 := fun Y l => unlast_spell Y 1073741824 1152921504606846976 l
  simp only [Int.cast_ofNat_Int] at e1 e2 e3
  unfold un1
  rw [newt_c2, e1]
  unfold un2
  rw [newt_c1, e2]
  unfold un3
  rw [e3 _ (Nat.mod_lt _ (by decide))]
  simp [unmixI, unmixN]

theorem un_nonneg (x : Int) : 0 ≤ IntKind.u64.wrap x := by rw [IntKind.wrap_u64]; omega

set_option maxHeartbeats 800000 in
theorem unmix7 (x : Int) (hx : U x) (w : World) : Calls Try.prog 7 #[.int .u64 x] w fun e w' => e = .returned (.int .u64 (unmixI x)) ∧ w' = w := by
  have hs := unmix_spell x hx
  have h0 : 0 ≤ x := hx.1
  rw [← hs]
  clear hs
  go_enter Try.func7, Try.ntmps7
  go_wp2_with (go_at_call 9; refine (inv9 _ _).mono ?_; rintro e w' ⟨rfl, hw⟩; obtain rfl := hw.symm)
  go_ret
  exact ⟨rfl, rfl⟩
end Go.Proofs.Qxb6612388a
