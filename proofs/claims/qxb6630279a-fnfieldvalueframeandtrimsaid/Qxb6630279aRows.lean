/-
  No cell of these rows narrows 'for every input' (looked for: loops, veiled, ifaces, maps, wideKeys, modest, calm, conditions, laid).
  DERIVED. THE GIVEN ROWS OF THIS SEAT. 2 by the template 'for every input the law returns true; each argument reads behind the call as it read before'; 0 by the template 'total and deterministic' (their statements: Qxb6630279aTotals.lean).
  GIVEN WITH THE SEED: the statements are not yours to turn. If you find one false, say at which input.
  Laid BY PROGRAM, IN A SANDBOX (cutbox-rows.mjs): the forced cells as the released guide's own fill.sh prints them over the translation 2e18490bc1cd5694… (all of the seat's roots in one cut). By AI agents, Wed Nov 11 2026. No macro, syntax, notation, axiom, sorry.
-/
import Derived.Test.Qxb6630279aChecked
import GoSem.Claim
import GoSem.ClaimJoined
import GoSem.ClaimMapViews
import Derived.JoinedTies
import Derived.KernelRfl
namespace Go.Proofs.Qxb6630279a
/- THE CELL 'sum', in the pinned program and in every row, IS THE sha256 OF THE DUMP (.gsa) THAT Qxb6630279aProg.lean LOADS. Nothing in Lean hashes anything: it is a label: what it is worth is what the hold of that sum in a sandbox is worth. -/
noncomputable def Try.pinned : Pinned := { name := "qxb6630279a", sum := "2e18490bc1cd56943249969758baaa9435c63b7daf8c70851888559933c88d2f", checked := Try.checked }
namespace Rows
def none {H : Type} : Left H := { results := [], args := [] }

/-- 'zzlaws_internal_engine_b1.FnFieldValueFrameAndTrim': WHATEVER THE INPUT: true; the input reads as it did. -/
def fnFieldValueFrameAndTrimSpec : ChangeSpec := { name := "fnFieldValueFrameAndTrim", fn := fun _ => fun
  | [d] => { results := [.lit (.bool true)], args := [d] }
  | _ => none }
def fnFieldValueFrameAndTrimRow : OpenClaim := { program := "qxb6630279a", sum := "2e18490bc1cd56943249969758baaa9435c63b7daf8c70851888559933c88d2f", func := "example.com/weftline/weftline/zzlaws_internal_engine_b1.FnFieldValueFrameAndTrim", spec := "fnFieldValueFrameAndTrim", apart := false }
def FnFieldValueFrameAndTrimSaid : Prop := fnFieldValueFrameAndTrimRow.holds Try.pinned (OpenSpec.ofChange fnFieldValueFrameAndTrimSpec)

/-- ITS FALSE NEIGHBOUR: 'it returns false'. Refute it at one input. -/
def fnFieldValueFrameAndTrimWrong : ChangeSpec := { name := "fnFieldValueFrameAndTrim", fn := fun _ => fun
  | [d] => { results := [.lit (.bool false)], args := [d] }
  | _ => none }
def FnFieldValueFrameAndTrimWrongFalsely : Prop := fnFieldValueFrameAndTrimRow.holds Try.pinned (OpenSpec.ofChange fnFieldValueFrameAndTrimWrong)

/-- 'zzlaws_internal_engine_b1.FnFieldValueInsertByte': WHATEVER THE INPUT: true; the input reads as it did. -/
def fnFieldValueInsertByteSpec : ChangeSpec := { name := "fnFieldValueInsertByte", fn := fun _ => fun
  | [d1, d2, d3] => { results := [.lit (.bool true)], args := [d1, d2, d3] }
  | _ => none }
def fnFieldValueInsertByteRow : OpenClaim := { program := "qxb6630279a", sum := "2e18490bc1cd56943249969758baaa9435c63b7daf8c70851888559933c88d2f", func := "example.com/weftline/weftline/zzlaws_internal_engine_b1.FnFieldValueInsertByte", spec := "fnFieldValueInsertByte", apart := false }
def FnFieldValueInsertByteSaid : Prop := fnFieldValueInsertByteRow.holds Try.pinned (OpenSpec.ofChange fnFieldValueInsertByteSpec)

/-- ITS FALSE NEIGHBOUR: 'it returns false'. Refute it at one input. -/
def fnFieldValueInsertByteWrong : ChangeSpec := { name := "fnFieldValueInsertByte", fn := fun _ => fun
  | [d1, d2, d3] => { results := [.lit (.bool false)], args := [d1, d2, d3] }
  | _ => none }
def FnFieldValueInsertByteWrongFalsely : Prop := fnFieldValueInsertByteRow.holds Try.pinned (OpenSpec.ofChange fnFieldValueInsertByteWrong)

end Rows
end Go.Proofs.Qxb6630279a
