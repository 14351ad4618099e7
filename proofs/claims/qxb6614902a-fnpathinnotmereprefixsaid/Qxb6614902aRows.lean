/-
  No cell of these rows narrows 'for every input' (looked for: loops, veiled, ifaces, maps, wideKeys, modest, calm, conditions, laid).
  DERIVED. THE GIVEN ROWS OF THIS SEAT. 2 by the template 'for every input the law returns true; each argument reads behind the call as it read before'; 0 by the template 'total and deterministic' (their statements: Qxb6614902aTotals.lean).
  GIVEN WITH THE SEED: the statements are not yours to turn. If you find one false, say at which input.
  Laid BY PROGRAM, IN A SANDBOX (cutbox-rows.mjs): the forced cells as the released guide's own fill.sh prints them over the translation 4fee15faf559b961… (all of the seat's roots in one cut). By AI agents, Wed Nov 11 2026. No macro, syntax, notation, axiom, sorry.
-/
import Derived.Test.Qxb6614902aChecked
import GoSem.Claim
import GoSem.ClaimJoined
import GoSem.ClaimMapViews
import Derived.JoinedTies
import Derived.KernelRfl
namespace Go.Proofs.Qxb6614902a
/- THE CELL 'sum', in the pinned program and in every row, IS THE sha256 OF THE DUMP (.gsa) THAT Qxb6614902aProg.lean LOADS. Nothing in Lean hashes anything: it is a label: what it is worth is what the hold of that sum in a sandbox is worth. -/
noncomputable def Try.pinned : Pinned := { name := "qxb6614902a", sum := "4fee15faf559b9611b6e6646db5e03a33de189fc98fadce37ed8e1f41dfc2356", checked := Try.checked }
namespace Rows
def none {H : Type} : Left H := { results := [], args := [] }

/-- 'zzlaws_internal_snapshot_b1.FnPathInNesting': WHATEVER THE INPUT: true; the input reads as it did. -/
def fnPathInNestingSpec : ChangeSpec := { name := "fnPathInNesting", fn := fun _ => fun
  | [d1, d2, d3] => { results := [.lit (.bool true)], args := [d1, d2, d3] }
  | _ => none }
def fnPathInNestingRow : OpenClaim := { program := "qxb6614902a", sum := "4fee15faf559b9611b6e6646db5e03a33de189fc98fadce37ed8e1f41dfc2356", func := "example.com/chunkhold/chunkhold/zzlaws_internal_snapshot_b1.FnPathInNesting", spec := "fnPathInNesting", apart := false }
def FnPathInNestingSaid : Prop := fnPathInNestingRow.holds Try.pinned (OpenSpec.ofChange fnPathInNestingSpec)

/-- ITS FALSE NEIGHBOUR: 'it returns false'. Refute it at one input. -/
def fnPathInNestingWrong : ChangeSpec := { name := "fnPathInNesting", fn := fun _ => fun
  | [d1, d2, d3] => { results := [.lit (.bool false)], args := [d1, d2, d3] }
  | _ => none }
def FnPathInNestingWrongFalsely : Prop := fnPathInNestingRow.holds Try.pinned (OpenSpec.ofChange fnPathInNestingWrong)

/-- 'zzlaws_internal_snapshot_b1.FnPathInNotMerePrefix': WHATEVER THE INPUT: true; the input reads as it did. -/
def fnPathInNotMerePrefixSpec : ChangeSpec := { name := "fnPathInNotMerePrefix", fn := fun _ => fun
  | [d1, d2, d3] => { results := [.lit (.bool true)], args := [d1, d2, d3] }
  | _ => none }
def fnPathInNotMerePrefixRow : OpenClaim := { program := "qxb6614902a", sum := "4fee15faf559b9611b6e6646db5e03a33de189fc98fadce37ed8e1f41dfc2356", func := "example.com/chunkhold/chunkhold/zzlaws_internal_snapshot_b1.FnPathInNotMerePrefix", spec := "fnPathInNotMerePrefix", apart := false }
def FnPathInNotMerePrefixSaid : Prop := fnPathInNotMerePrefixRow.holds Try.pinned (OpenSpec.ofChange fnPathInNotMerePrefixSpec)

/-- ITS FALSE NEIGHBOUR: 'it returns false'. Refute it at one input. -/
def fnPathInNotMerePrefixWrong : ChangeSpec := { name := "fnPathInNotMerePrefix", fn := fun _ => fun
  | [d1, d2, d3] => { results := [.lit (.bool false)], args := [d1, d2, d3] }
  | _ => none }
def FnPathInNotMerePrefixWrongFalsely : Prop := fnPathInNotMerePrefixRow.holds Try.pinned (OpenSpec.ofChange fnPathInNotMerePrefixWrong)

end Rows
end Go.Proofs.Qxb6614902a
