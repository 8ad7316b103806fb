/-
  No cell of these rows narrows 'for every input' (looked for: loops, veiled, ifaces, maps, wideKeys, modest, calm, conditions, laid).
  DERIVED. THE GIVEN ROWS OF THIS SEAT. 2 by the template 'for every input the law returns true; each argument reads behind the call as it read before'; 0 by the template 'total and deterministic' (their statements: Qxb6627522aTotals.lean).
  GIVEN WITH THE SEED: the statements are not yours to turn. If you find one false, say at which input.
  Laid BY PROGRAM, IN A SANDBOX (cutbox-rows.mjs): the forced cells as the released guide's own fill.sh prints them over the translation c9b61d8b2c5cdbfd… (all of the seat's roots in one cut). By AI agents, Wed Nov 11 2026. No macro, syntax, notation, axiom, sorry.
-/
import Derived.Test.Qxb6627522aChecked
import GoSem.Claim
import GoSem.ClaimJoined
import GoSem.ClaimMapViews
import Derived.JoinedTies
import Derived.KernelRfl
namespace Go.Proofs.Qxb6627522a
/- THE CELL 'sum', in the pinned program and in every row, IS THE sha256 OF THE DUMP (.gsa) THAT Qxb6627522aProg.lean LOADS. Nothing in Lean hashes anything: it is a label: what it is worth is what the hold of that sum in a sandbox is worth. -/
noncomputable def Try.pinned : Pinned := { name := "qxb6627522a", sum := "c9b61d8b2c5cdbfd43b3feb4537ef4420b4bc1ce5094c7248874e1803f692f62", checked := Try.checked }
namespace Rows
def none {H : Type} : Left H := { results := [], args := [] }

/-- 'zzlaws_internal_jsonreq_b1.FnPieceLenIsGreatestCharBoundaryWithinLimit': WHATEVER THE INPUT: true; the input reads as it did. -/
def fnPieceLenIsGreatestCharBoundaryWithinLimitSpec : ChangeSpec := { name := "fnPieceLenIsGreatestCharBoundaryWithinLimit", fn := fun _ => fun
  | [d1, d2] => { results := [.lit (.bool true)], args := [d1, d2] }
  | _ => none }
def fnPieceLenIsGreatestCharBoundaryWithinLimitRow : OpenClaim := { program := "qxb6627522a", sum := "c9b61d8b2c5cdbfd43b3feb4537ef4420b4bc1ce5094c7248874e1803f692f62", func := "example.com/cinderbox/cinderbox/zzlaws_internal_jsonreq_b1.FnPieceLenIsGreatestCharBoundaryWithinLimit", spec := "fnPieceLenIsGreatestCharBoundaryWithinLimit", apart := false }
def FnPieceLenIsGreatestCharBoundaryWithinLimitSaid : Prop := fnPieceLenIsGreatestCharBoundaryWithinLimitRow.holds Try.pinned (OpenSpec.ofChange fnPieceLenIsGreatestCharBoundaryWithinLimitSpec)

/-- ITS FALSE NEIGHBOUR: 'it returns false'. Refute it at one input. -/
def fnPieceLenIsGreatestCharBoundaryWithinLimitWrong : ChangeSpec := { name := "fnPieceLenIsGreatestCharBoundaryWithinLimit", fn := fun _ => fun
  | [d1, d2] => { results := [.lit (.bool false)], args := [d1, d2] }
  | _ => none }
def FnPieceLenIsGreatestCharBoundaryWithinLimitWrongFalsely : Prop := fnPieceLenIsGreatestCharBoundaryWithinLimitRow.holds Try.pinned (OpenSpec.ofChange fnPieceLenIsGreatestCharBoundaryWithinLimitWrong)

/-- 'zzlaws_internal_jsonreq_b1.FnPieceLenSplitsIntoGreedyWholePieces': WHATEVER THE INPUT: true; the input reads as it did. -/
def fnPieceLenSplitsIntoGreedyWholePiecesSpec : ChangeSpec := { name := "fnPieceLenSplitsIntoGreedyWholePieces", fn := fun _ => fun
  | [d1, d2] => { results := [.lit (.bool true)], args := [d1, d2] }
  | _ => none }
def fnPieceLenSplitsIntoGreedyWholePiecesRow : OpenClaim := { program := "qxb6627522a", sum := "c9b61d8b2c5cdbfd43b3feb4537ef4420b4bc1ce5094c7248874e1803f692f62", func := "example.com/cinderbox/cinderbox/zzlaws_internal_jsonreq_b1.FnPieceLenSplitsIntoGreedyWholePieces", spec := "fnPieceLenSplitsIntoGreedyWholePieces", apart := false }
def FnPieceLenSplitsIntoGreedyWholePiecesSaid : Prop := fnPieceLenSplitsIntoGreedyWholePiecesRow.holds Try.pinned (OpenSpec.ofChange fnPieceLenSplitsIntoGreedyWholePiecesSpec)

/-- ITS FALSE NEIGHBOUR: 'it returns false'. Refute it at one input. -/
def fnPieceLenSplitsIntoGreedyWholePiecesWrong : ChangeSpec := { name := "fnPieceLenSplitsIntoGreedyWholePieces", fn := fun _ => fun
  | [d1, d2] => { results := [.lit (.bool false)], args := [d1, d2] }
  | _ => none }
def FnPieceLenSplitsIntoGreedyWholePiecesWrongFalsely : Prop := fnPieceLenSplitsIntoGreedyWholePiecesRow.holds Try.pinned (OpenSpec.ofChange fnPieceLenSplitsIntoGreedyWholePiecesWrong)

end Rows
end Go.Proofs.Qxb6627522a
