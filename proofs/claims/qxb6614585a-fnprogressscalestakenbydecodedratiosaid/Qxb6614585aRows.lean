/-
  No cell of these rows narrows 'for every input' (looked for: loops, veiled, ifaces, maps, wideKeys, modest, calm, conditions, laid).
  DERIVED. THE GIVEN ROWS OF THIS SEAT. 2 by the template 'for every input the law returns true; each argument reads behind the call as it read before'; 0 by the template 'total and deterministic' (their statements: Qxb6614585aTotals.lean).
  GIVEN WITH THE SEED: the statements are not yours to turn. If you find one false, say at which input.
  Laid BY PROGRAM, IN A SANDBOX (cutbox-rows.mjs): the forced cells as the released guide's own fill.sh prints them over the translation 18d6852eaf1b736a… (all of the seat's roots in one cut). By AI agents, Wed Nov 11 2026. No macro, syntax, notation, axiom, sorry.
-/
import Derived.Test.Qxb6614585aChecked
import GoSem.Claim
import GoSem.ClaimJoined
import GoSem.ClaimMapViews
import Derived.JoinedTies
import Derived.KernelRfl
namespace Go.Proofs.Qxb6614585a
/- THE CELL 'sum', in the pinned program and in every row, IS THE sha256 OF THE DUMP (.gsa) THAT Qxb6614585aProg.lean LOADS. Nothing in Lean hashes anything: it is a label: what it is worth is what the hold of that sum in a sandbox is worth. -/
noncomputable def Try.pinned : Pinned := { name := "qxb6614585a", sum := "18d6852eaf1b736a8f5093320e6a7ddb2288c601f49c17c11f5df6f605afe07e", checked := Try.checked }
namespace Rows
def none {H : Type} : Left H := { results := [], args := [] }

/-- 'zzlaws_meeting_b1.FnProgressScalesTakenByDecodedRatio': WHATEVER THE INPUT: true; the input reads as it did. -/
def fnProgressScalesTakenByDecodedRatioSpec : ChangeSpec := { name := "fnProgressScalesTakenByDecodedRatio", fn := fun _ => fun
  | [d1, d2, d3, d4, d5] => { results := [.lit (.bool true)], args := [d1, d2, d3, d4, d5] }
  | _ => none }
def fnProgressScalesTakenByDecodedRatioRow : OpenClaim := { program := "qxb6614585a", sum := "18d6852eaf1b736a8f5093320e6a7ddb2288c601f49c17c11f5df6f605afe07e", func := "example.com/cumulo/cumulo/zzlaws_meeting_b1.FnProgressScalesTakenByDecodedRatio", spec := "fnProgressScalesTakenByDecodedRatio", apart := false }
def FnProgressScalesTakenByDecodedRatioSaid : Prop := fnProgressScalesTakenByDecodedRatioRow.holds Try.pinned (OpenSpec.ofChange fnProgressScalesTakenByDecodedRatioSpec)

/-- ITS FALSE NEIGHBOUR: 'it returns false'. Refute it at one input. -/
def fnProgressScalesTakenByDecodedRatioWrong : ChangeSpec := { name := "fnProgressScalesTakenByDecodedRatio", fn := fun _ => fun
  | [d1, d2, d3, d4, d5] => { results := [.lit (.bool false)], args := [d1, d2, d3, d4, d5] }
  | _ => none }
def FnProgressScalesTakenByDecodedRatioWrongFalsely : Prop := fnProgressScalesTakenByDecodedRatioRow.holds Try.pinned (OpenSpec.ofChange fnProgressScalesTakenByDecodedRatioWrong)

/-- 'zzlaws_meeting_b1.FnProgressUndecodedUntilDecodedThenMonotone': WHATEVER THE INPUT: true; the input reads as it did. -/
def fnProgressUndecodedUntilDecodedThenMonotoneSpec : ChangeSpec := { name := "fnProgressUndecodedUntilDecodedThenMonotone", fn := fun _ => fun
  | [d1, d2, d3, d4, d5, d6] => { results := [.lit (.bool true)], args := [d1, d2, d3, d4, d5, d6] }
  | _ => none }
def fnProgressUndecodedUntilDecodedThenMonotoneRow : OpenClaim := { program := "qxb6614585a", sum := "18d6852eaf1b736a8f5093320e6a7ddb2288c601f49c17c11f5df6f605afe07e", func := "example.com/cumulo/cumulo/zzlaws_meeting_b1.FnProgressUndecodedUntilDecodedThenMonotone", spec := "fnProgressUndecodedUntilDecodedThenMonotone", apart := false }
def FnProgressUndecodedUntilDecodedThenMonotoneSaid : Prop := fnProgressUndecodedUntilDecodedThenMonotoneRow.holds Try.pinned (OpenSpec.ofChange fnProgressUndecodedUntilDecodedThenMonotoneSpec)

/-- ITS FALSE NEIGHBOUR: 'it returns false'. Refute it at one input. -/
def fnProgressUndecodedUntilDecodedThenMonotoneWrong : ChangeSpec := { name := "fnProgressUndecodedUntilDecodedThenMonotone", fn := fun _ => fun
  | [d1, d2, d3, d4, d5, d6] => { results := [.lit (.bool false)], args := [d1, d2, d3, d4, d5, d6] }
  | _ => none }
def FnProgressUndecodedUntilDecodedThenMonotoneWrongFalsely : Prop := fnProgressUndecodedUntilDecodedThenMonotoneRow.holds Try.pinned (OpenSpec.ofChange fnProgressUndecodedUntilDecodedThenMonotoneWrong)

end Rows
end Go.Proofs.Qxb6614585a
