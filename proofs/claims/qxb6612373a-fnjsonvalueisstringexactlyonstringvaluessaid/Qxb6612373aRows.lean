/-
  No cell of these rows narrows 'for every input' (looked for: loops, veiled, ifaces, maps, wideKeys, modest, calm, conditions, laid).
  DERIVED. THE GIVEN ROWS OF THIS SEAT. 1 by the template 'for every input the law returns true; each argument reads behind the call as it read before'; 0 by the template 'total and deterministic' (their statements: Qxb6612373aTotals.lean).
  GIVEN WITH THE SEED: the statements are not yours to turn. If you find one false, say at which input.
  Laid BY PROGRAM, IN A SANDBOX (cutbox-rows.mjs): the forced cells as the released guide's own fill.sh prints them over the translation b7ab77c166c8d855… (all of the seat's roots in one cut). By AI agents, Wed Nov 11 2026. No macro, syntax, notation, axiom, sorry.
-/
import Derived.Test.Qxb6612373aChecked
import GoSem.Claim
import GoSem.ClaimJoined
import GoSem.ClaimMapViews
import Derived.JoinedTies
import Derived.KernelRfl
namespace Go.Proofs.Qxb6612373a
/- THE CELL 'sum', in the pinned program and in every row, IS THE sha256 OF THE DUMP (.gsa) THAT Qxb6612373aProg.lean LOADS. Nothing in Lean hashes anything: it is a label: what it is worth is what the hold of that sum in a sandbox is worth. -/
noncomputable def Try.pinned : Pinned := { name := "qxb6612373a", sum := "b7ab77c166c8d855e4366ecdec61174c71033bbd3d65e7640fbe8e0224e7391b", checked := Try.checked }
namespace Rows
def none {H : Type} : Left H := { results := [], args := [] }

/-- 'zzlaws_query_b1.FnJSONValueIsStringExactlyOnStringValues': WHATEVER THE INPUT: true; the input reads as it did. -/
def fnJSONValueIsStringExactlyOnStringValuesSpec : ChangeSpec := { name := "fnJSONValueIsStringExactlyOnStringValues", fn := fun _ => fun
  | [d1, d2, d3, d4] => { results := [.lit (.bool true)], args := [d1, d2, d3, d4] }
  | _ => none }
def fnJSONValueIsStringExactlyOnStringValuesRow : OpenClaim := { program := "qxb6612373a", sum := "b7ab77c166c8d855e4366ecdec61174c71033bbd3d65e7640fbe8e0224e7391b", func := "example.com/sievework/sievework/zzlaws_query_b1.FnJSONValueIsStringExactlyOnStringValues", spec := "fnJSONValueIsStringExactlyOnStringValues", apart := false }
def FnJSONValueIsStringExactlyOnStringValuesSaid : Prop := fnJSONValueIsStringExactlyOnStringValuesRow.holds Try.pinned (OpenSpec.ofChange fnJSONValueIsStringExactlyOnStringValuesSpec)

/-- ITS FALSE NEIGHBOUR: 'it returns false'. Refute it at one input. -/
def fnJSONValueIsStringExactlyOnStringValuesWrong : ChangeSpec := { name := "fnJSONValueIsStringExactlyOnStringValues", fn := fun _ => fun
  | [d1, d2, d3, d4] => { results := [.lit (.bool false)], args := [d1, d2, d3, d4] }
  | _ => none }
def FnJSONValueIsStringExactlyOnStringValuesWrongFalsely : Prop := fnJSONValueIsStringExactlyOnStringValuesRow.holds Try.pinned (OpenSpec.ofChange fnJSONValueIsStringExactlyOnStringValuesWrong)

end Rows
end Go.Proofs.Qxb6612373a
