/-
  No cell of these rows narrows 'for every input' (looked for: loops, veiled, ifaces, maps, wideKeys, modest, calm, conditions, laid).
  DERIVED. THE GIVEN ROWS OF THIS SEAT. 1 by the template 'for every input the law returns true; each argument reads behind the call as it read before'; 0 by the template 'total and deterministic' (their statements: Qxb6609042aTotals.lean).
  GIVEN WITH THE SEED: the statements are not yours to turn. If you find one false, say at which input.
  Laid BY PROGRAM, IN A SANDBOX (cutbox-rows.mjs): the forced cells as the released guide's own fill.sh prints them over the translation ffe1bfe98005d67e… (all of the seat's roots in one cut). By AI agents, Wed Nov 11 2026. No macro, syntax, notation, axiom, sorry.
-/
import Derived.Test.Qxb6609042aChecked
import GoSem.Claim
import GoSem.ClaimJoined
import GoSem.ClaimMapViews
import Derived.JoinedTies
import Derived.KernelRfl
namespace Go.Proofs.Qxb6609042a
/- THE CELL 'sum', in the pinned program and in every row, IS THE sha256 OF THE DUMP (.gsa) THAT Qxb6609042aProg.lean LOADS. Nothing in Lean hashes anything: it is a label: what it is worth is what the hold of that sum in a sandbox is worth. -/
noncomputable def Try.pinned : Pinned := { name := "qxb6609042a", sum := "ffe1bfe98005d67ef5e03c518ea3b9b4d5339309d944bc98604167a280b6e8fb", checked := Try.checked }
namespace Rows
def none {H : Type} : Left H := { results := [], args := [] }

/-- 'zzlaws_internal_authz_b1.FnRoleGivesJoinsAndGrantsWhatIsPutIn': WHATEVER THE INPUT: true; the input reads as it did. -/
def fnRoleGivesJoinsAndGrantsWhatIsPutInSpec : ChangeSpec := { name := "fnRoleGivesJoinsAndGrantsWhatIsPutIn", fn := fun _ => fun
  | [d1, d2, d3, d4] => { results := [.lit (.bool true)], args := [d1, d2, d3, d4] }
  | _ => none }
def fnRoleGivesJoinsAndGrantsWhatIsPutInRow : OpenClaim := { program := "qxb6609042a", sum := "ffe1bfe98005d67ef5e03c518ea3b9b4d5339309d944bc98604167a280b6e8fb", func := "example.com/gardien/gardien/zzlaws_internal_authz_b1.FnRoleGivesJoinsAndGrantsWhatIsPutIn", spec := "fnRoleGivesJoinsAndGrantsWhatIsPutIn", apart := false }
def FnRoleGivesJoinsAndGrantsWhatIsPutInSaid : Prop := fnRoleGivesJoinsAndGrantsWhatIsPutInRow.holds Try.pinned (OpenSpec.ofChange fnRoleGivesJoinsAndGrantsWhatIsPutInSpec)

/-- ITS FALSE NEIGHBOUR: 'it returns false'. Refute it at one input. -/
def fnRoleGivesJoinsAndGrantsWhatIsPutInWrong : ChangeSpec := { name := "fnRoleGivesJoinsAndGrantsWhatIsPutIn", fn := fun _ => fun
  | [d1, d2, d3, d4] => { results := [.lit (.bool false)], args := [d1, d2, d3, d4] }
  | _ => none }
def FnRoleGivesJoinsAndGrantsWhatIsPutInWrongFalsely : Prop := fnRoleGivesJoinsAndGrantsWhatIsPutInRow.holds Try.pinned (OpenSpec.ofChange fnRoleGivesJoinsAndGrantsWhatIsPutInWrong)

end Rows
end Go.Proofs.Qxb6609042a
