/-
  No cell of these rows narrows 'for every input' (looked for: loops, veiled, ifaces, maps, wideKeys, modest, calm, conditions, laid).
  DERIVED. THE GIVEN ROWS OF THIS SEAT. 2 by the template 'for every input the law returns true; each argument reads behind the call as it read before'; 0 by the template 'total and deterministic' (their statements: Qxb6627462aTotals.lean).
  GIVEN WITH THE SEED: the statements are not yours to turn. If you find one false, say at which input.
  Laid BY PROGRAM, IN A SANDBOX (cutbox-rows.mjs): the forced cells as the released guide's own fill.sh prints them over the translation a3b7d382423c4120… (all of the seat's roots in one cut). By AI agents, Wed Nov 11 2026. No macro, syntax, notation, axiom, sorry.
-/
import Derived.Test.Qxb6627462aChecked
import GoSem.Claim
import GoSem.ClaimJoined
import GoSem.ClaimMapViews
import Derived.JoinedTies
import Derived.KernelRfl
namespace Go.Proofs.Qxb6627462a
/- THE CELL 'sum', in the pinned program and in every row, IS THE sha256 OF THE DUMP (.gsa) THAT Qxb6627462aProg.lean LOADS. Nothing in Lean hashes anything: it is a label: what it is worth is what the hold of that sum in a sandbox is worth. -/
noncomputable def Try.pinned : Pinned := { name := "qxb6627462a", sum := "a3b7d382423c4120db6222956a89bad59189848c0fac0f4f2e46a8afd728b6f7", checked := Try.checked }
namespace Rows
def none {H : Type} : Left H := { results := [], args := [] }

/-- 'zzlaws_internal_sched_b1.FnUnholdLetsGoOnceAndOnlyTheHolder': WHATEVER THE INPUT: true; the input reads as it did. -/
def fnUnholdLetsGoOnceAndOnlyTheHolderSpec : ChangeSpec := { name := "fnUnholdLetsGoOnceAndOnlyTheHolder", fn := fun _ => fun
  | [d1, d2, d3, d4, d5, d6] => { results := [.lit (.bool true)], args := [d1, d2, d3, d4, d5, d6] }
  | _ => none }
def fnUnholdLetsGoOnceAndOnlyTheHolderRow : OpenClaim := { program := "qxb6627462a", sum := "a3b7d382423c4120db6222956a89bad59189848c0fac0f4f2e46a8afd728b6f7", func := "example.com/stampwise/stampwise/zzlaws_internal_sched_b1.FnUnholdLetsGoOnceAndOnlyTheHolder", spec := "fnUnholdLetsGoOnceAndOnlyTheHolder", apart := false }
def FnUnholdLetsGoOnceAndOnlyTheHolderSaid : Prop := fnUnholdLetsGoOnceAndOnlyTheHolderRow.holds Try.pinned (OpenSpec.ofChange fnUnholdLetsGoOnceAndOnlyTheHolderSpec)

/-- ITS FALSE NEIGHBOUR: 'it returns false'. Refute it at one input. -/
def fnUnholdLetsGoOnceAndOnlyTheHolderWrong : ChangeSpec := { name := "fnUnholdLetsGoOnceAndOnlyTheHolder", fn := fun _ => fun
  | [d1, d2, d3, d4, d5, d6] => { results := [.lit (.bool false)], args := [d1, d2, d3, d4, d5, d6] }
  | _ => none }
def FnUnholdLetsGoOnceAndOnlyTheHolderWrongFalsely : Prop := fnUnholdLetsGoOnceAndOnlyTheHolderRow.holds Try.pinned (OpenSpec.ofChange fnUnholdLetsGoOnceAndOnlyTheHolderWrong)

/-- 'zzlaws_internal_sched_b1.FnUnholdOfTwoIsOrderFree': WHATEVER THE INPUT: true; the input reads as it did. -/
def fnUnholdOfTwoIsOrderFreeSpec : ChangeSpec := { name := "fnUnholdOfTwoIsOrderFree", fn := fun _ => fun
  | [d1, d2, d3, d4, d5, d6, d7] => { results := [.lit (.bool true)], args := [d1, d2, d3, d4, d5, d6, d7] }
  | _ => none }
def fnUnholdOfTwoIsOrderFreeRow : OpenClaim := { program := "qxb6627462a", sum := "a3b7d382423c4120db6222956a89bad59189848c0fac0f4f2e46a8afd728b6f7", func := "example.com/stampwise/stampwise/zzlaws_internal_sched_b1.FnUnholdOfTwoIsOrderFree", spec := "fnUnholdOfTwoIsOrderFree", apart := false }
def FnUnholdOfTwoIsOrderFreeSaid : Prop := fnUnholdOfTwoIsOrderFreeRow.holds Try.pinned (OpenSpec.ofChange fnUnholdOfTwoIsOrderFreeSpec)

/-- ITS FALSE NEIGHBOUR: 'it returns false'. Refute it at one input. -/
def fnUnholdOfTwoIsOrderFreeWrong : ChangeSpec := { name := "fnUnholdOfTwoIsOrderFree", fn := fun _ => fun
  | [d1, d2, d3, d4, d5, d6, d7] => { results := [.lit (.bool false)], args := [d1, d2, d3, d4, d5, d6, d7] }
  | _ => none }
def FnUnholdOfTwoIsOrderFreeWrongFalsely : Prop := fnUnholdOfTwoIsOrderFreeRow.holds Try.pinned (OpenSpec.ofChange fnUnholdOfTwoIsOrderFreeWrong)

end Rows
end Go.Proofs.Qxb6627462a
