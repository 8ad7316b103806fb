/-
  No cell of these rows narrows 'for every input' (looked for: loops, veiled, ifaces, maps, wideKeys, modest, calm, conditions, laid).
  DERIVED. THE GIVEN ROWS OF THIS SEAT. 2 by the template 'for every input the law returns true; each argument reads behind the call as it read before'; 0 by the template 'total and deterministic' (their statements: Qxb6627563aTotals.lean).
  GIVEN WITH THE SEED: the statements are not yours to turn. If you find one false, say at which input.
  Laid BY PROGRAM, IN A SANDBOX (cutbox-rows.mjs): the forced cells as the released guide's own fill.sh prints them over the translation 89f83b768b882c94… (all of the seat's roots in one cut). By AI agents, Wed Nov 11 2026. No macro, syntax, notation, axiom, sorry.
-/
import Derived.Test.Qxb6627563aChecked
import GoSem.Claim
import GoSem.ClaimJoined
import GoSem.ClaimMapViews
import Derived.JoinedTies
import Derived.KernelRfl
namespace Go.Proofs.Qxb6627563a
/- THE CELL 'sum', in the pinned program and in every row, IS THE sha256 OF THE DUMP (.gsa) THAT Qxb6627563aProg.lean LOADS. Nothing in Lean hashes anything: it is a label: what it is worth is what the hold of that sum in a sandbox is worth. -/
noncomputable def Try.pinned : Pinned := { name := "qxb6627563a", sum := "89f83b768b882c942576f579faf5929500901c22ca531f6b8c5af39b34d850e0", checked := Try.checked }
namespace Rows
def none {H : Type} : Left H := { results := [], args := [] }

/-- 'zzlaws_internal_model_b1.FnAllowsUserAdmitsInsertedKind': WHATEVER THE INPUT: true; the input reads as it did. -/
def fnAllowsUserAdmitsInsertedKindSpec : ChangeSpec := { name := "fnAllowsUserAdmitsInsertedKind", fn := fun _ => fun
  | [d1, d2, d3, d4, d5, d6, d7, d8] => { results := [.lit (.bool true)], args := [d1, d2, d3, d4, d5, d6, d7, d8] }
  | _ => none }
def fnAllowsUserAdmitsInsertedKindRow : OpenClaim := { program := "qxb6627563a", sum := "89f83b768b882c942576f579faf5929500901c22ca531f6b8c5af39b34d850e0", func := "example.com/muninn/muninn/zzlaws_internal_model_b1.FnAllowsUserAdmitsInsertedKind", spec := "fnAllowsUserAdmitsInsertedKind", apart := false }
def FnAllowsUserAdmitsInsertedKindSaid : Prop := fnAllowsUserAdmitsInsertedKindRow.holds Try.pinned (OpenSpec.ofChange fnAllowsUserAdmitsInsertedKindSpec)

/-- ITS FALSE NEIGHBOUR: 'it returns false'. Refute it at one input. -/
def fnAllowsUserAdmitsInsertedKindWrong : ChangeSpec := { name := "fnAllowsUserAdmitsInsertedKind", fn := fun _ => fun
  | [d1, d2, d3, d4, d5, d6, d7, d8] => { results := [.lit (.bool false)], args := [d1, d2, d3, d4, d5, d6, d7, d8] }
  | _ => none }
def FnAllowsUserAdmitsInsertedKindWrongFalsely : Prop := fnAllowsUserAdmitsInsertedKindRow.holds Try.pinned (OpenSpec.ofChange fnAllowsUserAdmitsInsertedKindWrong)

/-- 'zzlaws_internal_model_b1.FnAllowsUserJoinIsOrAndEachKindAdmitted': WHATEVER THE INPUT: true; the input reads as it did. -/
def fnAllowsUserJoinIsOrAndEachKindAdmittedSpec : ChangeSpec := { name := "fnAllowsUserJoinIsOrAndEachKindAdmitted", fn := fun _ => fun
  | [d1, d2, d3, d4, d5, d6, d7] => { results := [.lit (.bool true)], args := [d1, d2, d3, d4, d5, d6, d7] }
  | _ => none }
def fnAllowsUserJoinIsOrAndEachKindAdmittedRow : OpenClaim := { program := "qxb6627563a", sum := "89f83b768b882c942576f579faf5929500901c22ca531f6b8c5af39b34d850e0", func := "example.com/muninn/muninn/zzlaws_internal_model_b1.FnAllowsUserJoinIsOrAndEachKindAdmitted", spec := "fnAllowsUserJoinIsOrAndEachKindAdmitted", apart := false }
def FnAllowsUserJoinIsOrAndEachKindAdmittedSaid : Prop := fnAllowsUserJoinIsOrAndEachKindAdmittedRow.holds Try.pinned (OpenSpec.ofChange fnAllowsUserJoinIsOrAndEachKindAdmittedSpec)

/-- ITS FALSE NEIGHBOUR: 'it returns false'. Refute it at one input. -/
def fnAllowsUserJoinIsOrAndEachKindAdmittedWrong : ChangeSpec := { name := "fnAllowsUserJoinIsOrAndEachKindAdmitted", fn := fun _ => fun
  | [d1, d2, d3, d4, d5, d6, d7] => { results := [.lit (.bool false)], args := [d1, d2, d3, d4, d5, d6, d7] }
  | _ => none }
def FnAllowsUserJoinIsOrAndEachKindAdmittedWrongFalsely : Prop := fnAllowsUserJoinIsOrAndEachKindAdmittedRow.holds Try.pinned (OpenSpec.ofChange fnAllowsUserJoinIsOrAndEachKindAdmittedWrong)

end Rows
end Go.Proofs.Qxb6627563a
