/-
  No cell of these rows narrows 'for every input' (looked for: loops, veiled, ifaces, maps, wideKeys, modest, calm, conditions, laid).
  DERIVED. THE GIVEN ROWS OF THIS SEAT. 2 by the template 'for every input the law returns true; each argument reads behind the call as it read before'; 0 by the template 'total and deterministic' (their statements: Qxb6630356aTotals.lean).
  GIVEN WITH THE SEED: the statements are not yours to turn. If you find one false, say at which input.
  Laid BY PROGRAM, IN A SANDBOX (cutbox-rows.mjs): the forced cells as the released guide's own fill.sh prints them over the translation d8e6ab778054c51b… (all of the seat's roots in one cut). By AI agents, Wed Nov 11 2026. No macro, syntax, notation, axiom, sorry.
-/
import Derived.Test.Qxb6630356aChecked
import GoSem.Claim
import GoSem.ClaimJoined
import GoSem.ClaimMapViews
import Derived.JoinedTies
import Derived.KernelRfl
namespace Go.Proofs.Qxb6630356a
/- THE CELL 'sum', in the pinned program and in every row, IS THE sha256 OF THE DUMP (.gsa) THAT Qxb6630356aProg.lean LOADS. Nothing in Lean hashes anything: it is a label: what it is worth is what the hold of that sum in a sandbox is worth. -/
noncomputable def Try.pinned : Pinned := { name := "qxb6630356a", sum := "d8e6ab778054c51be4339500b337ea58aaa1876276687aa222631f6f37ae2ed0", checked := Try.checked }
namespace Rows
def none {H : Type} : Left H := { results := [], args := [] }

/-- 'zzlaws_internal_graph_b1.FnLabelIsSortedIntersection': WHATEVER THE INPUT: true; the input reads as it did. -/
def fnLabelIsSortedIntersectionSpec : ChangeSpec := { name := "fnLabelIsSortedIntersection", fn := fun _ => fun
  | [d1, d2, d3] => { results := [.lit (.bool true)], args := [d1, d2, d3] }
  | _ => none }
def fnLabelIsSortedIntersectionRow : OpenClaim := { program := "qxb6630356a", sum := "d8e6ab778054c51be4339500b337ea58aaa1876276687aa222631f6f37ae2ed0", func := "example.com/sharegraph/sharegraph/zzlaws_internal_graph_b1.FnLabelIsSortedIntersection", spec := "fnLabelIsSortedIntersection", apart := false }
def FnLabelIsSortedIntersectionSaid : Prop := fnLabelIsSortedIntersectionRow.holds Try.pinned (OpenSpec.ofChange fnLabelIsSortedIntersectionSpec)

/-- ITS FALSE NEIGHBOUR: 'it returns false'. Refute it at one input. -/
def fnLabelIsSortedIntersectionWrong : ChangeSpec := { name := "fnLabelIsSortedIntersection", fn := fun _ => fun
  | [d1, d2, d3] => { results := [.lit (.bool false)], args := [d1, d2, d3] }
  | _ => none }
def FnLabelIsSortedIntersectionWrongFalsely : Prop := fnLabelIsSortedIntersectionRow.holds Try.pinned (OpenSpec.ofChange fnLabelIsSortedIntersectionWrong)

/-- 'zzlaws_internal_graph_b1.FnLabelSymmetricDiagonalAbsorbing': WHATEVER THE INPUT: true; the input reads as it did. -/
def fnLabelSymmetricDiagonalAbsorbingSpec : ChangeSpec := { name := "fnLabelSymmetricDiagonalAbsorbing", fn := fun _ => fun
  | [d1, d2, d3] => { results := [.lit (.bool true)], args := [d1, d2, d3] }
  | _ => none }
def fnLabelSymmetricDiagonalAbsorbingRow : OpenClaim := { program := "qxb6630356a", sum := "d8e6ab778054c51be4339500b337ea58aaa1876276687aa222631f6f37ae2ed0", func := "example.com/sharegraph/sharegraph/zzlaws_internal_graph_b1.FnLabelSymmetricDiagonalAbsorbing", spec := "fnLabelSymmetricDiagonalAbsorbing", apart := false }
def FnLabelSymmetricDiagonalAbsorbingSaid : Prop := fnLabelSymmetricDiagonalAbsorbingRow.holds Try.pinned (OpenSpec.ofChange fnLabelSymmetricDiagonalAbsorbingSpec)

/-- ITS FALSE NEIGHBOUR: 'it returns false'. Refute it at one input. -/
def fnLabelSymmetricDiagonalAbsorbingWrong : ChangeSpec := { name := "fnLabelSymmetricDiagonalAbsorbing", fn := fun _ => fun
  | [d1, d2, d3] => { results := [.lit (.bool false)], args := [d1, d2, d3] }
  | _ => none }
def FnLabelSymmetricDiagonalAbsorbingWrongFalsely : Prop := fnLabelSymmetricDiagonalAbsorbingRow.holds Try.pinned (OpenSpec.ofChange fnLabelSymmetricDiagonalAbsorbingWrong)

end Rows
end Go.Proofs.Qxb6630356a
