/-
  No cell of these rows narrows 'for every input' (looked for: loops, veiled, ifaces, maps, wideKeys, modest, calm, conditions, laid).
  DERIVED. THE GIVEN ROWS OF THIS SEAT. 4 by the template 'for every input the law returns true; each argument reads behind the call as it read before'; 0 by the template 'total and deterministic' (their statements: Qxb6614698aTotals.lean).
  GIVEN WITH THE SEED: the statements are not yours to turn. If you find one false, say at which input.
  Laid BY PROGRAM, IN A SANDBOX (cutbox-rows.mjs): the forced cells as the released guide's own fill.sh prints them over the translation cdda02df801d988a… (all of the seat's roots in one cut). By AI agents, Wed Nov 11 2026. No macro, syntax, notation, axiom, sorry.
-/
import Derived.Test.Qxb6614698aChecked
import GoSem.Claim
import GoSem.ClaimJoined
import GoSem.ClaimMapViews
import Derived.JoinedTies
import Derived.KernelRfl
namespace Go.Proofs.Qxb6614698a
/- THE CELL 'sum', in the pinned program and in every row, IS THE sha256 OF THE DUMP (.gsa) THAT Qxb6614698aProg.lean LOADS. Nothing in Lean hashes anything: it is a label: what it is worth is what the hold of that sum in a sandbox is worth. -/
noncomputable def Try.pinned : Pinned := { name := "qxb6614698a", sum := "cdda02df801d988a3e61e1da0da7359c11081c491e6c39bacf96269abca54791", checked := Try.checked }
namespace Rows
def none {H : Type} : Left H := { results := [], args := [] }

/-- 'zzlaws_unions_b1.FnFirstIsLeastSetAndSplits': WHATEVER THE INPUT: true; the input reads as it did. -/
def fnFirstIsLeastSetAndSplitsSpec : ChangeSpec := { name := "fnFirstIsLeastSetAndSplits", fn := fun _ => fun
  | [d1, d2, d3] => { results := [.lit (.bool true)], args := [d1, d2, d3] }
  | _ => none }
def fnFirstIsLeastSetAndSplitsRow : OpenClaim := { program := "qxb6614698a", sum := "cdda02df801d988a3e61e1da0da7359c11081c491e6c39bacf96269abca54791", func := "example.com/gabriel/gabriel/zzlaws_unions_b1.FnFirstIsLeastSetAndSplits", spec := "fnFirstIsLeastSetAndSplits", unfollowed := true, recurses := true, apart := false }
def FnFirstIsLeastSetAndSplitsSaid : Prop := fnFirstIsLeastSetAndSplitsRow.holds Try.pinned (OpenSpec.ofChange fnFirstIsLeastSetAndSplitsSpec)

/-- ITS FALSE NEIGHBOUR: 'it returns false'. Refute it at one input. -/
def fnFirstIsLeastSetAndSplitsWrong : ChangeSpec := { name := "fnFirstIsLeastSetAndSplits", fn := fun _ => fun
  | [d1, d2, d3] => { results := [.lit (.bool false)], args := [d1, d2, d3] }
  | _ => none }
def FnFirstIsLeastSetAndSplitsWrongFalsely : Prop := fnFirstIsLeastSetAndSplitsRow.holds Try.pinned (OpenSpec.ofChange fnFirstIsLeastSetAndSplitsWrong)

/-- 'zzlaws_unions_b1.FnFirstSkipsInsertedUnset': WHATEVER THE INPUT: true; the input reads as it did. -/
def fnFirstSkipsInsertedUnsetSpec : ChangeSpec := { name := "fnFirstSkipsInsertedUnset", fn := fun _ => fun
  | [d1, d2, d3, d4] => { results := [.lit (.bool true)], args := [d1, d2, d3, d4] }
  | _ => none }
def fnFirstSkipsInsertedUnsetRow : OpenClaim := { program := "qxb6614698a", sum := "cdda02df801d988a3e61e1da0da7359c11081c491e6c39bacf96269abca54791", func := "example.com/gabriel/gabriel/zzlaws_unions_b1.FnFirstSkipsInsertedUnset", spec := "fnFirstSkipsInsertedUnset", unfollowed := true, recurses := true, apart := false }
def FnFirstSkipsInsertedUnsetSaid : Prop := fnFirstSkipsInsertedUnsetRow.holds Try.pinned (OpenSpec.ofChange fnFirstSkipsInsertedUnsetSpec)

/-- ITS FALSE NEIGHBOUR: 'it returns false'. Refute it at one input. -/
def fnFirstSkipsInsertedUnsetWrong : ChangeSpec := { name := "fnFirstSkipsInsertedUnset", fn := fun _ => fun
  | [d1, d2, d3, d4] => { results := [.lit (.bool false)], args := [d1, d2, d3, d4] }
  | _ => none }
def FnFirstSkipsInsertedUnsetWrongFalsely : Prop := fnFirstSkipsInsertedUnsetRow.holds Try.pinned (OpenSpec.ofChange fnFirstSkipsInsertedUnsetWrong)

/-- 'zzlaws_unions_b1.FnIsSetCountsTypedNilPointer': WHATEVER THE INPUT: true; the input reads as it did. -/
def fnIsSetCountsTypedNilPointerSpec : ChangeSpec := { name := "fnIsSetCountsTypedNilPointer", fn := fun _ => fun
  | [d] => { results := [.lit (.bool true)], args := [d] }
  | _ => none }
def fnIsSetCountsTypedNilPointerRow : OpenClaim := { program := "qxb6614698a", sum := "cdda02df801d988a3e61e1da0da7359c11081c491e6c39bacf96269abca54791", func := "example.com/gabriel/gabriel/zzlaws_unions_b1.FnIsSetCountsTypedNilPointer", spec := "fnIsSetCountsTypedNilPointer", unfollowed := true, recurses := true, apart := false }
def FnIsSetCountsTypedNilPointerSaid : Prop := fnIsSetCountsTypedNilPointerRow.holds Try.pinned (OpenSpec.ofChange fnIsSetCountsTypedNilPointerSpec)

/-- ITS FALSE NEIGHBOUR: 'it returns false'. Refute it at one input. -/
def fnIsSetCountsTypedNilPointerWrong : ChangeSpec := { name := "fnIsSetCountsTypedNilPointer", fn := fun _ => fun
  | [d] => { results := [.lit (.bool false)], args := [d] }
  | _ => none }
def FnIsSetCountsTypedNilPointerWrongFalsely : Prop := fnIsSetCountsTypedNilPointerRow.holds Try.pinned (OpenSpec.ofChange fnIsSetCountsTypedNilPointerWrong)

/-- 'zzlaws_unions_b1.FnIsSetMarksExactlyTheGiven': WHATEVER THE INPUT: true; the input reads as it did. -/
def fnIsSetMarksExactlyTheGivenSpec : ChangeSpec := { name := "fnIsSetMarksExactlyTheGiven", fn := fun _ => fun
  | [d1, d2] => { results := [.lit (.bool true)], args := [d1, d2] }
  | _ => none }
def fnIsSetMarksExactlyTheGivenRow : OpenClaim := { program := "qxb6614698a", sum := "cdda02df801d988a3e61e1da0da7359c11081c491e6c39bacf96269abca54791", func := "example.com/gabriel/gabriel/zzlaws_unions_b1.FnIsSetMarksExactlyTheGiven", spec := "fnIsSetMarksExactlyTheGiven", unfollowed := true, recurses := true, apart := false }
def FnIsSetMarksExactlyTheGivenSaid : Prop := fnIsSetMarksExactlyTheGivenRow.holds Try.pinned (OpenSpec.ofChange fnIsSetMarksExactlyTheGivenSpec)

/-- ITS FALSE NEIGHBOUR: 'it returns false'. Refute it at one input. -/
def fnIsSetMarksExactlyTheGivenWrong : ChangeSpec := { name := "fnIsSetMarksExactlyTheGiven", fn := fun _ => fun
  | [d1, d2] => { results := [.lit (.bool false)], args := [d1, d2] }
  | _ => none }
def FnIsSetMarksExactlyTheGivenWrongFalsely : Prop := fnIsSetMarksExactlyTheGivenRow.holds Try.pinned (OpenSpec.ofChange fnIsSetMarksExactlyTheGivenWrong)

end Rows
end Go.Proofs.Qxb6614698a
