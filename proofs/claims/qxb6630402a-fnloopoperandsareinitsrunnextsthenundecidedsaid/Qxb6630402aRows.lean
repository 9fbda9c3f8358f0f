/-
  No cell of these rows narrows 'for every input' (looked for: loops, veiled, ifaces, maps, wideKeys, modest, calm, conditions, laid).
  DERIVED. THE GIVEN ROWS OF THIS SEAT. 2 by the template 'for every input the law returns true; each argument reads behind the call as it read before'; 0 by the template 'total and deterministic' (their statements: Qxb6630402aTotals.lean).
  GIVEN WITH THE SEED: the statements are not yours to turn. If you find one false, say at which input.
  Laid BY PROGRAM, IN A SANDBOX (cutbox-rows.mjs): the forced cells as the released guide's own fill.sh prints them over the translation 1043c4c2ade78305… (all of the seat's roots in one cut). By AI agents, Wed Nov 11 2026. No macro, syntax, notation, axiom, sorry.
-/
import Derived.Test.Qxb6630402aChecked
import GoSem.Claim
import GoSem.ClaimJoined
import GoSem.ClaimMapViews
import Derived.JoinedTies
import Derived.KernelRfl
namespace Go.Proofs.Qxb6630402a
/- THE CELL 'sum', in the pinned program and in every row, IS THE sha256 OF THE DUMP (.gsa) THAT Qxb6630402aProg.lean LOADS. Nothing in Lean hashes anything: it is a label: what it is worth is what the hold of that sum in a sandbox is worth. -/
noncomputable def Try.pinned : Pinned := { name := "qxb6630402a", sum := "1043c4c2ade78305a5b03525bcab45c7863fc609691514a83cdf28c996b83c04", checked := Try.checked }
namespace Rows
def none {H : Type} : Left H := { results := [], args := [] }

/-- 'zzlaws_kernel_b1.FnLoopOperandsAreInitsRunNextsThenUndecided': WHATEVER THE INPUT: true; the input reads as it did. -/
def fnLoopOperandsAreInitsRunNextsThenUndecidedSpec : ChangeSpec := { name := "fnLoopOperandsAreInitsRunNextsThenUndecided", fn := fun _ => fun
  | [d1, d2, d3, d4, d5, d6, d7] => { results := [.lit (.bool true)], args := [d1, d2, d3, d4, d5, d6, d7] }
  | _ => none }
def fnLoopOperandsAreInitsRunNextsThenUndecidedRow : OpenClaim := { program := "qxb6630402a", sum := "1043c4c2ade78305a5b03525bcab45c7863fc609691514a83cdf28c996b83c04", func := "example.com/lanewise/lanewise/zzlaws_kernel_b1.FnLoopOperandsAreInitsRunNextsThenUndecided", spec := "fnLoopOperandsAreInitsRunNextsThenUndecided", apart := false }
def FnLoopOperandsAreInitsRunNextsThenUndecidedSaid : Prop := fnLoopOperandsAreInitsRunNextsThenUndecidedRow.holds Try.pinned (OpenSpec.ofChange fnLoopOperandsAreInitsRunNextsThenUndecidedSpec)

/-- ITS FALSE NEIGHBOUR: 'it returns false'. Refute it at one input. -/
def fnLoopOperandsAreInitsRunNextsThenUndecidedWrong : ChangeSpec := { name := "fnLoopOperandsAreInitsRunNextsThenUndecided", fn := fun _ => fun
  | [d1, d2, d3, d4, d5, d6, d7] => { results := [.lit (.bool false)], args := [d1, d2, d3, d4, d5, d6, d7] }
  | _ => none }
def FnLoopOperandsAreInitsRunNextsThenUndecidedWrongFalsely : Prop := fnLoopOperandsAreInitsRunNextsThenUndecidedRow.holds Try.pinned (OpenSpec.ofChange fnLoopOperandsAreInitsRunNextsThenUndecidedWrong)

/-- 'zzlaws_kernel_b1.FnOperandsOfNonLoopValueAreNonNilPrefixOfXYThird': WHATEVER THE INPUT: true; the input reads as it did. -/
def fnOperandsOfNonLoopValueAreNonNilPrefixOfXYThirdSpec : ChangeSpec := { name := "fnOperandsOfNonLoopValueAreNonNilPrefixOfXYThird", fn := fun _ => fun
  | [d1, d2, d3, d4, d5, d6, d7] => { results := [.lit (.bool true)], args := [d1, d2, d3, d4, d5, d6, d7] }
  | _ => none }
def fnOperandsOfNonLoopValueAreNonNilPrefixOfXYThirdRow : OpenClaim := { program := "qxb6630402a", sum := "1043c4c2ade78305a5b03525bcab45c7863fc609691514a83cdf28c996b83c04", func := "example.com/lanewise/lanewise/zzlaws_kernel_b1.FnOperandsOfNonLoopValueAreNonNilPrefixOfXYThird", spec := "fnOperandsOfNonLoopValueAreNonNilPrefixOfXYThird", apart := false }
def FnOperandsOfNonLoopValueAreNonNilPrefixOfXYThirdSaid : Prop := fnOperandsOfNonLoopValueAreNonNilPrefixOfXYThirdRow.holds Try.pinned (OpenSpec.ofChange fnOperandsOfNonLoopValueAreNonNilPrefixOfXYThirdSpec)

/-- ITS FALSE NEIGHBOUR: 'it returns false'. Refute it at one input. -/
def fnOperandsOfNonLoopValueAreNonNilPrefixOfXYThirdWrong : ChangeSpec := { name := "fnOperandsOfNonLoopValueAreNonNilPrefixOfXYThird", fn := fun _ => fun
  | [d1, d2, d3, d4, d5, d6, d7] => { results := [.lit (.bool false)], args := [d1, d2, d3, d4, d5, d6, d7] }
  | _ => none }
def FnOperandsOfNonLoopValueAreNonNilPrefixOfXYThirdWrongFalsely : Prop := fnOperandsOfNonLoopValueAreNonNilPrefixOfXYThirdRow.holds Try.pinned (OpenSpec.ofChange fnOperandsOfNonLoopValueAreNonNilPrefixOfXYThirdWrong)

end Rows
end Go.Proofs.Qxb6630402a
