/-
  No cell of these rows narrows 'for every input' (looked for: loops, veiled, ifaces, maps, wideKeys, modest, calm, conditions, laid).
  DERIVED. THE GIVEN ROWS OF THIS SEAT. 1 by the template 'for every input the law returns true; each argument reads behind the call as it read before'; 0 by the template 'total and deterministic' (their statements: Qxb6627525aTotals.lean).
  GIVEN WITH THE SEED: the statements are not yours to turn. If you find one false, say at which input.
  Laid BY PROGRAM, IN A SANDBOX (cutbox-rows.mjs): the forced cells as the released guide's own fill.sh prints them over the translation c8ef0e4bc516bcf3… (all of the seat's roots in one cut). By AI agents, Wed Nov 11 2026. No macro, syntax, notation, axiom, sorry.
-/
import Derived.Test.Qxb6627525aChecked
import GoSem.Claim
import GoSem.ClaimJoined
import GoSem.ClaimMapViews
import Derived.JoinedTies
import Derived.KernelRfl
namespace Go.Proofs.Qxb6627525a
/- THE CELL 'sum', in the pinned program and in every row, IS THE sha256 OF THE DUMP (.gsa) THAT Qxb6627525aProg.lean LOADS. Nothing in Lean hashes anything: it is a label: what it is worth is what the hold of that sum in a sandbox is worth. -/
noncomputable def Try.pinned : Pinned := { name := "qxb6627525a", sum := "c8ef0e4bc516bcf3ad5caf5cba6a8cd42df77f480213b0731721b2dbe5653256", checked := Try.checked }
namespace Rows
def none {H : Type} : Left H := { results := [], args := [] }

/-- 'zzlaws_internal_der_b1.FnSequenceOneFormOfAllClassesAtTagSixteen': WHATEVER THE INPUT: true; the input reads as it did. -/
def fnSequenceOneFormOfAllClassesAtTagSixteenSpec : ChangeSpec := { name := "fnSequenceOneFormOfAllClassesAtTagSixteen", fn := fun _ => fun
  | [d1, d2, d3, d4] => { results := [.lit (.bool true)], args := [d1, d2, d3, d4] }
  | _ => none }
def fnSequenceOneFormOfAllClassesAtTagSixteenRow : OpenClaim := { program := "qxb6627525a", sum := "c8ef0e4bc516bcf3ad5caf5cba6a8cd42df77f480213b0731721b2dbe5653256", func := "example.com/certassay/certassay/zzlaws_internal_der_b1.FnSequenceOneFormOfAllClassesAtTagSixteen", spec := "fnSequenceOneFormOfAllClassesAtTagSixteen", apart := false }
def FnSequenceOneFormOfAllClassesAtTagSixteenSaid : Prop := fnSequenceOneFormOfAllClassesAtTagSixteenRow.holds Try.pinned (OpenSpec.ofChange fnSequenceOneFormOfAllClassesAtTagSixteenSpec)

/-- ITS FALSE NEIGHBOUR: 'it returns false'. Refute it at one input. -/
def fnSequenceOneFormOfAllClassesAtTagSixteenWrong : ChangeSpec := { name := "fnSequenceOneFormOfAllClassesAtTagSixteen", fn := fun _ => fun
  | [d1, d2, d3, d4] => { results := [.lit (.bool false)], args := [d1, d2, d3, d4] }
  | _ => none }
def FnSequenceOneFormOfAllClassesAtTagSixteenWrongFalsely : Prop := fnSequenceOneFormOfAllClassesAtTagSixteenRow.holds Try.pinned (OpenSpec.ofChange fnSequenceOneFormOfAllClassesAtTagSixteenWrong)

end Rows
end Go.Proofs.Qxb6627525a
