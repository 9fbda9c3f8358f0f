/-
  No cell of these rows narrows 'for every input' (looked for: loops, veiled, ifaces, maps, wideKeys, modest, calm, conditions, laid).
  DERIVED. THE GIVEN ROWS OF THIS SEAT. 2 by the template 'for every input the law returns true; each argument reads behind the call as it read before'; 0 by the template 'total and deterministic' (their statements: Qxb6630314aTotals.lean).
  GIVEN WITH THE SEED: the statements are not yours to turn. If you find one false, say at which input.
  Laid BY PROGRAM, IN A SANDBOX (cutbox-rows.mjs): the forced cells as the released guide's own fill.sh prints them over the translation a85d384cbba309ad… (all of the seat's roots in one cut). By AI agents, Wed Nov 11 2026. No macro, syntax, notation, axiom, sorry.
-/
import Derived.Test.Qxb6630314aChecked
import GoSem.Claim
import GoSem.ClaimJoined
import GoSem.ClaimMapViews
import Derived.JoinedTies
import Derived.KernelRfl
namespace Go.Proofs.Qxb6630314a
/- THE CELL 'sum', in the pinned program and in every row, IS THE sha256 OF THE DUMP (.gsa) THAT Qxb6630314aProg.lean LOADS. Nothing in Lean hashes anything: it is a label: what it is worth is what the hold of that sum in a sandbox is worth. -/
noncomputable def Try.pinned : Pinned := { name := "qxb6630314a", sum := "a85d384cbba309ad7dd6d4d2ecf2daf9a26c87b595d5bf53506fa3db90f3970d", checked := Try.checked }
namespace Rows
def none {H : Type} : Left H := { results := [], args := [] }

/-- 'zzlaws_pkg_message_b1.FnIsVisibleInsertAndSplit': WHATEVER THE INPUT: true; the input reads as it did. -/
def fnIsVisibleInsertAndSplitSpec : ChangeSpec := { name := "fnIsVisibleInsertAndSplit", fn := fun _ => fun
  | [d1, d2, d3] => { results := [.lit (.bool true)], args := [d1, d2, d3] }
  | _ => none }
def fnIsVisibleInsertAndSplitRow : OpenClaim := { program := "qxb6630314a", sum := "a85d384cbba309ad7dd6d4d2ecf2daf9a26c87b595d5bf53506fa3db90f3970d", func := "example.com/hollowcell/hollowcell/zzlaws_pkg_message_b1.FnIsVisibleInsertAndSplit", spec := "fnIsVisibleInsertAndSplit", apart := false }
def FnIsVisibleInsertAndSplitSaid : Prop := fnIsVisibleInsertAndSplitRow.holds Try.pinned (OpenSpec.ofChange fnIsVisibleInsertAndSplitSpec)

/-- ITS FALSE NEIGHBOUR: 'it returns false'. Refute it at one input. -/
def fnIsVisibleInsertAndSplitWrong : ChangeSpec := { name := "fnIsVisibleInsertAndSplit", fn := fun _ => fun
  | [d1, d2, d3] => { results := [.lit (.bool false)], args := [d1, d2, d3] }
  | _ => none }
def FnIsVisibleInsertAndSplitWrongFalsely : Prop := fnIsVisibleInsertAndSplitRow.holds Try.pinned (OpenSpec.ofChange fnIsVisibleInsertAndSplitWrong)

/-- 'zzlaws_pkg_message_b1.FnIsVisibleVisibleImage': WHATEVER THE INPUT: true; the input reads as it did. -/
def fnIsVisibleVisibleImageSpec : ChangeSpec := { name := "fnIsVisibleVisibleImage", fn := fun _ => fun
  | [d1, d2] => { results := [.lit (.bool true)], args := [d1, d2] }
  | _ => none }
def fnIsVisibleVisibleImageRow : OpenClaim := { program := "qxb6630314a", sum := "a85d384cbba309ad7dd6d4d2ecf2daf9a26c87b595d5bf53506fa3db90f3970d", func := "example.com/hollowcell/hollowcell/zzlaws_pkg_message_b1.FnIsVisibleVisibleImage", spec := "fnIsVisibleVisibleImage", apart := false }
def FnIsVisibleVisibleImageSaid : Prop := fnIsVisibleVisibleImageRow.holds Try.pinned (OpenSpec.ofChange fnIsVisibleVisibleImageSpec)

/-- ITS FALSE NEIGHBOUR: 'it returns false'. Refute it at one input. -/
def fnIsVisibleVisibleImageWrong : ChangeSpec := { name := "fnIsVisibleVisibleImage", fn := fun _ => fun
  | [d1, d2] => { results := [.lit (.bool false)], args := [d1, d2] }
  | _ => none }
def FnIsVisibleVisibleImageWrongFalsely : Prop := fnIsVisibleVisibleImageRow.holds Try.pinned (OpenSpec.ofChange fnIsVisibleVisibleImageWrong)

end Rows
end Go.Proofs.Qxb6630314a
