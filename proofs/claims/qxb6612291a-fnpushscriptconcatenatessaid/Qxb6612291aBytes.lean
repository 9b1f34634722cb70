import Derived.Test.Qxb6612291aRows
import Derived.WalkKit
import Derived.WalkSpells
import Derived.ProofKit
import Derived.Below
namespace Go.Proofs.Qxb6612291a
open Go.ChangeShapes Go.WideShapes Go.ChangeAt Go.RowKit
set_option linter.unusedVariables false

/-! ### the two guards on lengths -/
set_option maxHeartbeats 400000 in
theorem bytes16_ok (a0 a1 : Option Addr) (n0 c0 n1 c1 : Nat) (h : n0 + n1 ≤ 1048576) (w : World) :
    Calls Try.prog 16 #[.slice a0 n0 c0, .slice a1 n1 c1] w fun e w' => e = .returned (.bool true) ∧ w' = w := by
  have h0 : ¬ (1048576 : Int) < (n0 : Int) := by omega
  have h1 : ¬ (1048576 : Int) < (n1 : Int) := by omega
  have h2 : ¬ (1048576 : Int) < (n0 : Int) + (n1 : Int) := by omega
  go_enter Try.func16, Try.ntmps16
  go_wp2
  go_ret
  exact ⟨rfl, rfl⟩

set_option maxHeartbeats 400000 in
theorem bytes16_no (a0 a1 : Option Addr) (n0 c0 n1 c1 : Nat) (m0 : n0 ≤ maxLen) (m1 : n1 ≤ maxLen) (h : ¬ n0 + n1 ≤ 1048576) (w : World) :
    Calls Try.prog 16 #[.slice a0 n0 c0, .slice a1 n1 c1] w fun e w' => e = .returned (.bool false) ∧ w' = w := by
  unfold maxLen at m0 m1
  by_cases h0 : (1048576 : Int) < (n0 : Int)
  · go_enter Try.func16, Try.ntmps16
    go_wp2
    go_ret
    exact ⟨rfl, rfl⟩
  by_cases h1 : (1048576 : Int) < (n1 : Int)
  · go_enter Try.func16, Try.ntmps16
    go_wp2
    go_ret
    exact ⟨rfl, rfl⟩
  have h2 : (1048576 : Int) < (n0 : Int) + (n1 : Int) := by omega
  go_enter Try.func16, Try.ntmps16
  go_wp2
  go_ret
  exact ⟨rfl, rfl⟩
end Go.Proofs.Qxb6612291a
