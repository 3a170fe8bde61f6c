/-
  No cell of these rows narrows 'for every input' (looked for: loops, veiled, ifaces, maps, wideKeys, modest, calm, conditions, laid).
  DERIVED. THE GIVEN ROWS OF THIS SEAT. 1 by the template 'for every input the law returns true; each argument reads behind the call as it read before'; 0 by the template 'total and deterministic' (their statements: Qxb6614889aTotals.lean).
  GIVEN WITH THE SEED: the statements are not yours to turn. If you find one false, say at which input.
  Laid BY PROGRAM, IN A SANDBOX (cutbox-rows.mjs): the forced cells as the released guide's own fill.sh prints them over the translation 73b794dd473b019a… (all of the seat's roots in one cut). By AI agents, Wed Nov 11 2026. No macro, syntax, notation, axiom, sorry.
-/
import Derived.Test.Qxb6614889aChecked
import GoSem.Claim
import GoSem.ClaimJoined
import GoSem.ClaimMapViews
import Derived.JoinedTies
import Derived.KernelRfl
namespace Go.Proofs.Qxb6614889a
/- THE CELL 'sum', in the pinned program and in every row, IS THE sha256 OF THE DUMP (.gsa) THAT Qxb6614889aProg.lean LOADS. Nothing in Lean hashes anything: it is a label: what it is worth is what the hold of that sum in a sandbox is worth. -/
noncomputable def Try.pinned : Pinned := { name := "qxb6614889a", sum := "73b794dd473b019a00fe9d5a1fa9bf2aabcdb5a4a114eb16fa1a6cf0287dd4de", checked := Try.checked }
namespace Rows
def none {H : Type} : Left H := { results := [], args := [] }

/-- 'zzlaws_root_b1.FnIsLowerAlphaIsTheLowerCaseLetters': WHATEVER THE INPUT: true; the input reads as it did. -/
def fnIsLowerAlphaIsTheLowerCaseLettersSpec : ChangeSpec := { name := "fnIsLowerAlphaIsTheLowerCaseLetters", fn := fun _ => fun
  | [d] => { results := [.lit (.bool true)], args := [d] }
  | _ => none }
def fnIsLowerAlphaIsTheLowerCaseLettersRow : OpenClaim := { program := "qxb6614889a", sum := "73b794dd473b019a00fe9d5a1fa9bf2aabcdb5a4a114eb16fa1a6cf0287dd4de", func := "example.com/insigna/insigna/zzlaws_root_b1.FnIsLowerAlphaIsTheLowerCaseLetters", spec := "fnIsLowerAlphaIsTheLowerCaseLetters", apart := false }
def FnIsLowerAlphaIsTheLowerCaseLettersSaid : Prop := fnIsLowerAlphaIsTheLowerCaseLettersRow.holds Try.pinned (OpenSpec.ofChange fnIsLowerAlphaIsTheLowerCaseLettersSpec)

/-- ITS FALSE NEIGHBOUR: 'it returns false'. Refute it at one input. -/
def fnIsLowerAlphaIsTheLowerCaseLettersWrong : ChangeSpec := { name := "fnIsLowerAlphaIsTheLowerCaseLetters", fn := fun _ => fun
  | [d] => { results := [.lit (.bool false)], args := [d] }
  | _ => none }
def FnIsLowerAlphaIsTheLowerCaseLettersWrongFalsely : Prop := fnIsLowerAlphaIsTheLowerCaseLettersRow.holds Try.pinned (OpenSpec.ofChange fnIsLowerAlphaIsTheLowerCaseLettersWrong)

end Rows
end Go.Proofs.Qxb6614889a
