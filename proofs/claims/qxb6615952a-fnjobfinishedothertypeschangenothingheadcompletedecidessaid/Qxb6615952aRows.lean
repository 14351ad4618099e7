/-
  No cell of these rows narrows 'for every input' (looked for: loops, veiled, ifaces, maps, wideKeys, modest, calm, conditions, laid).
  DERIVED. THE GIVEN ROWS OF THIS SEAT. 3 by the template 'for every input the law returns true; each argument reads behind the call as it read before'; 0 by the template 'total and deterministic' (their statements: Qxb6615952aTotals.lean).
  GIVEN WITH THE SEED: the statements are not yours to turn. If you find one false, say at which input.
  Laid BY PROGRAM, IN A SANDBOX (cutbox-rows.mjs): the forced cells as the released guide's own fill.sh prints them over the translation b62b902449fdf959… (all of the seat's roots in one cut). By AI agents, Wed Nov 11 2026. No macro, syntax, notation, axiom, sorry.
-/
import Derived.Test.Qxb6615952aChecked
import GoSem.Claim
import GoSem.ClaimJoined
import GoSem.ClaimMapViews
import Derived.JoinedTies
import Derived.KernelRfl
namespace Go.Proofs.Qxb6615952a
/- THE CELL 'sum', in the pinned program and in every row, IS THE sha256 OF THE DUMP (.gsa) THAT Qxb6615952aProg.lean LOADS. Nothing in Lean hashes anything: it is a label: what it is worth is what the hold of that sum in a sandbox is worth. -/
noncomputable def Try.pinned : Pinned := { name := "qxb6615952a", sum := "b62b902449fdf959063d7e0ac8ce11f05cdd7623483523f3b68e706a26f5449f", checked := Try.checked }
namespace Rows
def none {H : Type} : Left H := { results := [], args := [] }

/-- 'zzlaws_internal_api_b1.FnJobFinishedEarliestTrueCompleteElseFailed': WHATEVER THE INPUT: true; the input reads as it did. -/
def fnJobFinishedEarliestTrueCompleteElseFailedSpec : ChangeSpec := { name := "fnJobFinishedEarliestTrueCompleteElseFailed", fn := fun _ => fun
  | [d1, d2, d3] => { results := [.lit (.bool true)], args := [d1, d2, d3] }
  | _ => none }
def fnJobFinishedEarliestTrueCompleteElseFailedRow : OpenClaim := { program := "qxb6615952a", sum := "b62b902449fdf959063d7e0ac8ce11f05cdd7623483523f3b68e706a26f5449f", func := "example.com/coxswain/coxswain/zzlaws_internal_api_b1.FnJobFinishedEarliestTrueCompleteElseFailed", spec := "fnJobFinishedEarliestTrueCompleteElseFailed", unfollowed := true, recurses := true, apart := false }
def FnJobFinishedEarliestTrueCompleteElseFailedSaid : Prop := fnJobFinishedEarliestTrueCompleteElseFailedRow.holds Try.pinned (OpenSpec.ofChange fnJobFinishedEarliestTrueCompleteElseFailedSpec)

/-- ITS FALSE NEIGHBOUR: 'it returns false'. Refute it at one input. -/
def fnJobFinishedEarliestTrueCompleteElseFailedWrong : ChangeSpec := { name := "fnJobFinishedEarliestTrueCompleteElseFailed", fn := fun _ => fun
  | [d1, d2, d3] => { results := [.lit (.bool false)], args := [d1, d2, d3] }
  | _ => none }
def FnJobFinishedEarliestTrueCompleteElseFailedWrongFalsely : Prop := fnJobFinishedEarliestTrueCompleteElseFailedRow.holds Try.pinned (OpenSpec.ofChange fnJobFinishedEarliestTrueCompleteElseFailedWrong)

/-- 'zzlaws_internal_api_b1.FnJobFinishedOtherTypesChangeNothingHeadCompleteDecides': WHATEVER THE INPUT: true; the input reads as it did. -/
def fnJobFinishedOtherTypesChangeNothingHeadCompleteDecidesSpec : ChangeSpec := { name := "fnJobFinishedOtherTypesChangeNothingHeadCompleteDecides", fn := fun _ => fun
  | [d1, d2, d3, d4, d5, d6, d7] => { results := [.lit (.bool true)], args := [d1, d2, d3, d4, d5, d6, d7] }
  | _ => none }
def fnJobFinishedOtherTypesChangeNothingHeadCompleteDecidesRow : OpenClaim := { program := "qxb6615952a", sum := "b62b902449fdf959063d7e0ac8ce11f05cdd7623483523f3b68e706a26f5449f", func := "example.com/coxswain/coxswain/zzlaws_internal_api_b1.FnJobFinishedOtherTypesChangeNothingHeadCompleteDecides", spec := "fnJobFinishedOtherTypesChangeNothingHeadCompleteDecides", unfollowed := true, recurses := true, apart := false }
def FnJobFinishedOtherTypesChangeNothingHeadCompleteDecidesSaid : Prop := fnJobFinishedOtherTypesChangeNothingHeadCompleteDecidesRow.holds Try.pinned (OpenSpec.ofChange fnJobFinishedOtherTypesChangeNothingHeadCompleteDecidesSpec)

/-- ITS FALSE NEIGHBOUR: 'it returns false'. Refute it at one input. -/
def fnJobFinishedOtherTypesChangeNothingHeadCompleteDecidesWrong : ChangeSpec := { name := "fnJobFinishedOtherTypesChangeNothingHeadCompleteDecides", fn := fun _ => fun
  | [d1, d2, d3, d4, d5, d6, d7] => { results := [.lit (.bool false)], args := [d1, d2, d3, d4, d5, d6, d7] }
  | _ => none }
def FnJobFinishedOtherTypesChangeNothingHeadCompleteDecidesWrongFalsely : Prop := fnJobFinishedOtherTypesChangeNothingHeadCompleteDecidesRow.holds Try.pinned (OpenSpec.ofChange fnJobFinishedOtherTypesChangeNothingHeadCompleteDecidesWrong)

/-- 'zzlaws_internal_api_b1.FnClusterIPIsTheStringAtSpecClusterIP': WHATEVER THE INPUT: true; the input reads as it did. -/
def fnClusterIPIsTheStringAtSpecClusterIPSpec : ChangeSpec := { name := "fnClusterIPIsTheStringAtSpecClusterIP", fn := fun _ => fun
  | [d1, d2, d3, d4] => { results := [.lit (.bool true)], args := [d1, d2, d3, d4] }
  | _ => none }
def fnClusterIPIsTheStringAtSpecClusterIPRow : OpenClaim := { program := "qxb6615952a", sum := "b62b902449fdf959063d7e0ac8ce11f05cdd7623483523f3b68e706a26f5449f", func := "example.com/coxswain/coxswain/zzlaws_internal_api_b1.FnClusterIPIsTheStringAtSpecClusterIP", spec := "fnClusterIPIsTheStringAtSpecClusterIP", apart := false }
def FnClusterIPIsTheStringAtSpecClusterIPSaid : Prop := fnClusterIPIsTheStringAtSpecClusterIPRow.holds Try.pinned (OpenSpec.ofChange fnClusterIPIsTheStringAtSpecClusterIPSpec)

/-- ITS FALSE NEIGHBOUR: 'it returns false'. Refute it at one input. -/
def fnClusterIPIsTheStringAtSpecClusterIPWrong : ChangeSpec := { name := "fnClusterIPIsTheStringAtSpecClusterIP", fn := fun _ => fun
  | [d1, d2, d3, d4] => { results := [.lit (.bool false)], args := [d1, d2, d3, d4] }
  | _ => none }
def FnClusterIPIsTheStringAtSpecClusterIPWrongFalsely : Prop := fnClusterIPIsTheStringAtSpecClusterIPRow.holds Try.pinned (OpenSpec.ofChange fnClusterIPIsTheStringAtSpecClusterIPWrong)

end Rows
end Go.Proofs.Qxb6615952a
