import Derived.Test.Qxb6612373aSteps
namespace Go.Proofs.Qxb6612373a
open Go.ChangeShapes Go.WideShapes Go.ChangeAt Go.RowKit
set_option linter.unusedVariables false

theorem facts {B : Nat} {w0 : World} {p q : ByteArray} {y2 y4 y7 y11 y13 : List Int} {d4 d13 : Int} {g1 n1 c1 g3 n3 c3 g5 n5 c5 g9 n9 c9 g10 n10 c10 g15 n15 c15 g17 n17 c17 g19 n19 c19 n2 n4 n8 n11 n14 n16 n18 : Nat} {w1 w3 w5 w9 w10 w15 w17 w19 : World}
    (r1 : St B w0 w1 g1 n1 c1 ([] ++ nums p))
    (r3 : St B w0 w3 g3 n3 c3 ((([] ++ nums p) ++ 34 :: y2) ++ 32 :: []))
    (r5 : St B w0 w5 g5 n5 c5 ((((([] ++ nums p) ++ 34 :: y2) ++ 32 :: []) ++ d4 :: y4) ++ 32 :: []))
    (r9 : St B w0 w9 g9 n9 c9 ((((((((([] ++ nums p) ++ 34 :: y2) ++ 32 :: []) ++ d4 :: y4) ++ 32 :: []) ++ 91 :: []) ++ 34 :: y7) ++ 93 :: []) ++ 32 :: []))
    (r10 : St B w0 w10 g10 n10 c10 (((((((((([] ++ nums p) ++ 34 :: y2) ++ 32 :: []) ++ d4 :: y4) ++ 32 :: []) ++ 91 :: []) ++ 34 :: y7) ++ 93 :: []) ++ 32 :: []) ++ 123 :: []))
    (r15 : St B w0 w15 g15 n15 c15 ((((((((((((((([] ++ nums p) ++ 34 :: y2) ++ 32 :: []) ++ d4 :: y4) ++ 32 :: []) ++ 91 :: []) ++ 34 :: y7) ++ 93 :: []) ++ 32 :: []) ++ 123 :: []) ++ 34 :: y11) ++ 58 :: []) ++ d13 :: y13) ++ 125 :: []) ++ 32 :: []))
    (r17 : St B w0 w17 g17 n17 c17 ((((((((((((((((([] ++ nums p) ++ 34 :: y2) ++ 32 :: []) ++ d4 :: y4) ++ 32 :: []) ++ 91 :: []) ++ 34 :: y7) ++ 93 :: []) ++ 32 :: []) ++ 123 :: []) ++ 34 :: y11) ++ 58 :: []) ++ d13 :: y13) ++ 125 :: []) ++ 32 :: []) ++ [116, 114, 117, 101]) ++ 32 :: []))
    (r19 : St B w0 w19 g19 n19 c19 ((((((((((((((((((([] ++ nums p) ++ 34 :: y2) ++ 32 :: []) ++ d4 :: y4) ++ 32 :: []) ++ 91 :: []) ++ 34 :: y7) ++ 93 :: []) ++ 32 :: []) ++ 123 :: []) ++ 34 :: y11) ++ 58 :: []) ++ d13 :: y13) ++ 125 :: []) ++ 32 :: []) ++ [116, 114, 117, 101]) ++ 32 :: []) ++ [110, 117, 108, 108]) ++ nums q))
    (o1 : n1 < n2) (o2 : n10 < n11) (o3 : n3 < n4) (o4 : n5 < n8) (o5 : n9 < n14) (o6 : n15 < n16) (o7 : n17 < n18) (e4 : d4 = 45 ∨ (48 ≤ d4 ∧ d4 ≤ 57)) :
    ∃ T : ByteArray, n19 ≤ T.size ∧ T.size ≤ n19 ∧ (convert 23 9 (.slice (some ⟨g19, 0, none⟩) n19 c19)).run Try.prog w19 = .ok (.string T) w19 ∧ isQ (T.extract n1 n2) = true ∧ isQ (T.extract n10 n11) = true ∧ isQ (T.extract n3 n4) = false ∧ isQ (T.extract n5 n8) = false ∧ isQ (T.extract n9 n14) = false ∧ isQ (T.extract n15 n16) = false ∧ isQ (T.extract n17 n18) = false := by
  obtain ⟨T, t1, t2, hcv, HQ⟩ := text_of r19
  refine ⟨T, t1, t2, hcv, ?_, ?_, ?_, ?_, ?_, ?_, ?_⟩
  · rw [HQ.out n1 n2 34 o1 (((((((((((((((((((r1.at 34 _).app _).app _).app _).app _).app _).app _).app _).app _).app _).app _).app _).app _).app _).app _).app _).app _).app _))]; rfl
  · rw [HQ.out n10 n11 34 o2 ((((((((((r10.at 34 _).app _).app _).app _).app _).app _).app _).app _).app _))]; rfl
  · rw [HQ.out n3 n4 d4 o3 (((((((((((((((((r3.at _ _).app _).app _).app _).app _).app _).app _).app _).app _).app _).app _).app _).app _).app _).app _).app _))]; exact dig_no d4 e4
  · rw [HQ.out n5 n8 91 o4 (((((((((((((((r5.at 91 _).app _).app _).app _).app _).app _).app _).app _).app _).app _).app _).app _).app _).app _))]; rfl
  · rw [HQ.out n9 n14 123 o5 (((((((((((r9.at 123 _).app _).app _).app _).app _).app _).app _).app _).app _).app _))]; rfl
  · rw [HQ.out n15 n16 116 o6 (((((r15.at 116 [114, 117, 101]).app _).app _).app _))]; rfl
  · rw [HQ.out n17 n18 110 o7 (((r17.at 110 [117, 108, 108]).app _))]; rfl
end Go.Proofs.Qxb6612373a
