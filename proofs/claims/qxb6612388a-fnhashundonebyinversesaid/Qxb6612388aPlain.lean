/-
  THE PLAIN LAW: splitmix64's finaliser and its inverse, over Nat. No Go in sight.
-/
namespace Go.Proofs.Qxb6612388a

/-- 2^64. -/
def M64 : Nat := 18446744073709551616
theorem M64_pow : M64 = 2 ^ 64 := rfl

def mixN (x : Nat) : Nat :=
  let a := (x ^^^ x / 1073741824) * 13787848793156543929 % 18446744073709551616
  let b := (a ^^^ a / 134217728) * 10723151780598845931 % 18446744073709551616
  b ^^^ b / 2147483648

def unmixN (y : Nat) : Nat :=
  let a := ((y ^^^ y / 2147483648) ^^^ y / 4611686018427387904) * 3573116690164977347 % 18446744073709551616
  let b := ((a ^^^ a / 134217728) ^^^ a / 18014398509481984) * 10871156337175269513 % 18446744073709551616
  (b ^^^ b / 1073741824) ^^^ b / 1152921504606846976

theorem xor_lt {a b : Nat} (ha : a < 18446744073709551616) (hb : b < 18446744073709551616) : a ^^^ b < 18446744073709551616 :=
  Nat.xor_lt_two_pow (n := 64) ha hb

theorem xorshift_lt {x d : Nat} (hx : x < 18446744073709551616) : x ^^^ x / d < 18446744073709551616 :=
  xor_lt hx (Nat.lt_of_le_of_lt (Nat.div_le_self _ _) hx)

theorem xor_cancel (a b c : Nat) (hc : c = 0) : ((a ^^^ b) ^^^ (b ^^^ c)) = a := by
  subst hc
  rw [Nat.xor_zero, Nat.xor_assoc, Nat.xor_self, Nat.xor_zero]

/-- The xorshift by k is undone by xoring in the shifts by k and 2k, where 3k is 64 or more. -/
theorem unshift (x k : Nat) (hx : x < 2 ^ 64) (hk : 64 ≤ k + k + k) :
    (((x ^^^ x / 2 ^ k) ^^^ (x ^^^ x / 2 ^ k) / 2 ^ k) ^^^ (x ^^^ x / 2 ^ k) / 2 ^ (k + k)) = x := by
  simp only [← Nat.shiftRight_eq_div_pow, Nat.shiftRight_xor_distrib, ← Nat.shiftRight_add]
  have h0 : x >>> (k + (k + k)) = 0 := by
    rw [Nat.shiftRight_eq_div_pow]
    refine Nat.div_eq_of_lt (Nat.lt_of_lt_of_le hx (Nat.pow_le_pow_right (by omega) (by omega)))
  rw [h0, Nat.xor_zero]
  generalize x >>> k = a
  generalize x >>> (k + k) = b
  rw [Nat.xor_assoc (x ^^^ a), Nat.xor_assoc a b b, Nat.xor_self, Nat.xor_zero, Nat.xor_assoc, Nat.xor_self, Nat.xor_zero]

theorem unmul (x c d : Nat) (hx : x < 18446744073709551616) (h : c * d % 18446744073709551616 = 1) : (x * c % 18446744073709551616) * d % 18446744073709551616 = x := by
  rw [Nat.mod_mul_mod, Nat.mul_assoc, Nat.mul_mod, h, Nat.mul_one, Nat.mod_mod, Nat.mod_eq_of_lt hx]

theorem mixN_lt (x : Nat) : mixN x < 18446744073709551616 := xorshift_lt (Nat.mod_lt _ (by decide))
theorem unmixN_lt (y : Nat) : unmixN y < 18446744073709551616 :=
  xor_lt (xorshift_lt (Nat.mod_lt _ (by decide))) (Nat.lt_of_le_of_lt (Nat.div_le_self _ _) (Nat.mod_lt _ (by decide)))

theorem unmix_mix (x : Nat) (hx : x < 18446744073709551616) : unmixN (mixN x) = x := by
  unfold unmixN mixN
  have e1 := unshift ((((x ^^^ x / 1073741824) * 13787848793156543929 % 18446744073709551616) ^^^ ((x ^^^ x / 1073741824) * 13787848793156543929 % 18446744073709551616) / 134217728) * 10723151780598845931 % 18446744073709551616) 31 (Nat.mod_lt _ (by decide)) (by decide)
  have e2 := unmul (((x ^^^ x / 1073741824) * 13787848793156543929 % 18446744073709551616) ^^^ ((x ^^^ x / 1073741824) * 13787848793156543929 % 18446744073709551616) / 134217728) 10723151780598845931 3573116690164977347 (xorshift_lt (Nat.mod_lt _ (by decide))) (by decide +kernel)
  have e3 := unshift ((x ^^^ x / 1073741824) * 13787848793156543929 % 18446744073709551616) 27 (Nat.mod_lt _ (by decide)) (by decide)
  have e4 := unmul (x ^^^ x / 1073741824) 13787848793156543929 10871156337175269513 (xorshift_lt hx) (by decide +kernel)
  have e5 := unshift x 30 hx (by decide)
  simp only [show (2 : Nat) ^ 31 = 2147483648 from rfl, show (2 : Nat) ^ (31 + 31) = 4611686018427387904 from rfl] at e1
  simp only [show (2 : Nat) ^ 27 = 134217728 from rfl, show (2 : Nat) ^ (27 + 27) = 18014398509481984 from rfl] at e3
  simp only [show (2 : Nat) ^ 30 = 1073741824 from rfl, show (2 : Nat) ^ (30 + 30) = 1152921504606846976 from rfl] at e5
  simp only [e1, e2, e3, e4, e5]

theorem law_undo (s n : Nat) (hs : s < 18446744073709551616) (hn : n < 18446744073709551616) : unmixN (unmixN (mixN (s ^^^ mixN n)) ^^^ s) = n := by
  rw [unmix_mix _ (xor_lt hs (mixN_lt n)), Nat.xor_comm s, Nat.xor_assoc, Nat.xor_self, Nat.xor_zero, unmix_mix n hn]

theorem law_xor (s1 s2 n : Nat) (h1 : s1 < 18446744073709551616) (h2 : s2 < 18446744073709551616) :
    unmixN (mixN (s1 ^^^ mixN n)) ^^^ unmixN (mixN (s2 ^^^ mixN n)) = s1 ^^^ s2 := by
  rw [unmix_mix _ (xor_lt h1 (mixN_lt n)), unmix_mix _ (xor_lt h2 (mixN_lt n)), Nat.xor_comm s2, Nat.xor_assoc, ← Nat.xor_assoc (mixN n), Nat.xor_self, Nat.zero_xor]
end Go.Proofs.Qxb6612388a
