/-
  No cell of these rows narrows 'for every input' (looked for: loops, veiled, ifaces, maps, wideKeys, modest, calm, conditions, laid).
  DERIVED. THE GIVEN ROWS OF THIS SEAT. 2 by the template 'for every input the law returns true; each argument reads behind the call as it read before'; 0 by the template 'total and deterministic' (their statements: Qxb6612388aTotals.lean).
  GIVEN WITH THE SEED: the statements are not yours to turn. If you find one false, say at which input.
  Laid BY PROGRAM, IN A SANDBOX (cutbox-rows.mjs): the forced cells as the released guide's own fill.sh prints them over the translation 6d85b012ef6c888f… (all of the seat's roots in one cut). By AI agents, Wed Nov 11 2026. No macro, syntax, notation, axiom, sorry.
-/
import Derived.Test.Qxb6612388aChecked
import GoSem.Claim
import GoSem.ClaimJoined
import GoSem.ClaimMapViews
import Derived.JoinedTies
import Derived.KernelRfl
namespace Go.Proofs.Qxb6612388a
/- THE CELL 'sum', in the pinned program and in every row, IS THE sha256 OF THE DUMP (.gsa) THAT Qxb6612388aProg.lean LOADS. Nothing in Lean hashes anything: it is a label: what it is worth is what the hold of that sum in a sandbox is worth. -/
noncomputable def Try.pinned : Pinned := { name := "qxb6612388a", sum := "6d85b012ef6c888f47ee437f860fa5dd8f8303aa47421a467035605f49c6cfb5", checked := Try.checked }
namespace Rows
def none {H : Type} : Left H := { results := [], args := [] }

/-- 'zzlaws_internal_signature_b1.FnHashUndoneByInverse': WHATEVER THE INPUT: true; the input reads as it did. -/
def fnHashUndoneByInverseSpec : ChangeSpec := { name := "fnHashUndoneByInverse", fn := fun _ => fun
  | [d1, d2] => { results := [.lit (.bool true)], args := [d1, d2] }
  | _ => none }
def fnHashUndoneByInverseRow : OpenClaim := { program := "qxb6612388a", sum := "6d85b012ef6c888f47ee437f860fa5dd8f8303aa47421a467035605f49c6cfb5", func := "example.com/arbordex/arbordex/zzlaws_internal_signature_b1.FnHashUndoneByInverse", spec := "fnHashUndoneByInverse", apart := false }
def FnHashUndoneByInverseSaid : Prop := fnHashUndoneByInverseRow.holds Try.pinned (OpenSpec.ofChange fnHashUndoneByInverseSpec)

/-- ITS FALSE NEIGHBOUR: 'it returns false'. Refute it at one input. -/
def fnHashUndoneByInverseWrong : ChangeSpec := { name := "fnHashUndoneByInverse", fn := fun _ => fun
  | [d1, d2] => { results := [.lit (.bool false)], args := [d1, d2] }
  | _ => none }
def FnHashUndoneByInverseWrongFalsely : Prop := fnHashUndoneByInverseRow.holds Try.pinned (OpenSpec.ofChange fnHashUndoneByInverseWrong)

/-- 'zzlaws_internal_signature_b1.FnHashXorOfSums': WHATEVER THE INPUT: true; the input reads as it did. -/
def fnHashXorOfSumsSpec : ChangeSpec := { name := "fnHashXorOfSums", fn := fun _ => fun
  | [d1, d2, d3] => { results := [.lit (.bool true)], args := [d1, d2, d3] }
  | _ => none }
def fnHashXorOfSumsRow : OpenClaim := { program := "qxb6612388a", sum := "6d85b012ef6c888f47ee437f860fa5dd8f8303aa47421a467035605f49c6cfb5", func := "example.com/arbordex/arbordex/zzlaws_internal_signature_b1.FnHashXorOfSums", spec := "fnHashXorOfSums", apart := false }
def FnHashXorOfSumsSaid : Prop := fnHashXorOfSumsRow.holds Try.pinned (OpenSpec.ofChange fnHashXorOfSumsSpec)

/-- ITS FALSE NEIGHBOUR: 'it returns false'. Refute it at one input. -/
def fnHashXorOfSumsWrong : ChangeSpec := { name := "fnHashXorOfSums", fn := fun _ => fun
  | [d1, d2, d3] => { results := [.lit (.bool false)], args := [d1, d2, d3] }
  | _ => none }
def FnHashXorOfSumsWrongFalsely : Prop := fnHashXorOfSumsRow.holds Try.pinned (OpenSpec.ofChange fnHashXorOfSumsWrong)

end Rows
end Go.Proofs.Qxb6612388a
