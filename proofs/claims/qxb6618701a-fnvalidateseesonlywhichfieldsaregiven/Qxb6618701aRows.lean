/-
  No cell of these rows narrows 'for every input' (looked for: loops, veiled, ifaces, maps, wideKeys, modest, calm, conditions, laid).
  DERIVED. THE GIVEN ROWS OF THIS SEAT. 1 by the template 'for every input the law returns true; each argument reads behind the call as it read before'; 0 by the template 'total and deterministic' (their statements: Qxb6618701aTotals.lean).
  GIVEN WITH THE SEED: the statements are not yours to turn. If you find one false, say at which input.
  Laid BY PROGRAM, IN A SANDBOX (cutbox-rows.mjs): the forced cells as the released guide's own fill.sh prints them over the translation de4aefa71c24f4cd… (all of the seat's roots in one cut). By AI agents, Wed Nov 11 2026. No macro, syntax, notation, axiom, sorry.
-/
import Derived.Test.Qxb6618701aChecked
import GoSem.Claim
import GoSem.ClaimJoined
import GoSem.ClaimMapViews
import Derived.JoinedTies
import Derived.KernelRfl
namespace Go.Proofs.Qxb6618701a
/- THE CELL 'sum', in the pinned program and in every row, IS THE sha256 OF THE DUMP (.gsa) THAT Qxb6618701aProg.lean LOADS. Nothing in Lean hashes anything: it is a label: what it is worth is what the hold of that sum in a sandbox is worth. -/
noncomputable def Try.pinned : Pinned := { name := "qxb6618701a", sum := "de4aefa71c24f4cd7d4a822872c5cb9e34b26921a94bd0d1158b8c96601a7a89", checked := Try.checked }
namespace Rows
def none {H : Type} : Left H := { results := [], args := [] }

/-- 'zzlaws_root_b1.FnValidateSeesOnlyWhichFieldsAreGiven': WHATEVER THE INPUT: true; the input reads as it did. -/
def fnValidateSeesOnlyWhichFieldsAreGivenSpec : ChangeSpec := { name := "fnValidateSeesOnlyWhichFieldsAreGiven", fn := fun _ => fun
  | [d1, d2] => { results := [.lit (.bool true)], args := [d1, d2] }
  | _ => none }
def fnValidateSeesOnlyWhichFieldsAreGivenRow : OpenClaim := { program := "qxb6618701a", sum := "de4aefa71c24f4cd7d4a822872c5cb9e34b26921a94bd0d1158b8c96601a7a89", func := "example.com/admit/admit/zzlaws_root_b1.FnValidateSeesOnlyWhichFieldsAreGiven", spec := "fnValidateSeesOnlyWhichFieldsAreGiven", apart := false }
def FnValidateSeesOnlyWhichFieldsAreGivenSaid : Prop := fnValidateSeesOnlyWhichFieldsAreGivenRow.holds Try.pinned (OpenSpec.ofChange fnValidateSeesOnlyWhichFieldsAreGivenSpec)

/-- ITS FALSE NEIGHBOUR: 'it returns false'. Refute it at one input. -/
def fnValidateSeesOnlyWhichFieldsAreGivenWrong : ChangeSpec := { name := "fnValidateSeesOnlyWhichFieldsAreGiven", fn := fun _ => fun
  | [d1, d2] => { results := [.lit (.bool false)], args := [d1, d2] }
  | _ => none }
def FnValidateSeesOnlyWhichFieldsAreGivenWrongFalsely : Prop := fnValidateSeesOnlyWhichFieldsAreGivenRow.holds Try.pinned (OpenSpec.ofChange fnValidateSeesOnlyWhichFieldsAreGivenWrong)

end Rows
end Go.Proofs.Qxb6618701a
