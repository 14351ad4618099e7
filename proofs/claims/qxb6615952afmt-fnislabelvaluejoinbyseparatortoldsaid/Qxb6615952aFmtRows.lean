/-
  No cell of these rows narrows 'for every input' (looked for: loops, veiled, ifaces, maps, wideKeys, modest, calm, conditions, laid).
  DERIVED. THE GIVEN ROWS OF THIS SEAT. 2 by the template 'for every input the law returns true; each argument reads behind the call as it read before'; 0 by the template 'total and deterministic' (their statements: Qxb6615952aFmtTotals.lean).
  GIVEN WITH THE SEED: the statements are not yours to turn. If you find one false, say at which input.
  Laid BY PROGRAM, IN A SANDBOX (cutbox-rows.mjs): the forced cells as the released guide's own fill.sh prints them over the translation 8a3f2cd5a5063f2b… (all of the seat's roots in one cut). By AI agents, Wed Nov 11 2026. No macro, syntax, notation, axiom, sorry.
-/
import Derived.Test.Qxb6615952aFmtChecked
import GoSem.Claim
import GoSem.ClaimJoined
import GoSem.ClaimMapViews
import Derived.JoinedTies
import Derived.KernelRfl
namespace Go.Proofs.Qxb6615952aFmt
/- THE CELL 'sum', in the pinned program and in every row, IS THE sha256 OF THE DUMP (.gsa) THAT Qxb6615952aFmtProg.lean LOADS. Nothing in Lean hashes anything: it is a label: what it is worth is what the hold of that sum in a sandbox is worth. -/
noncomputable def Tryf.pinned : Pinned := { name := "qxb6615952afmt", sum := "8a3f2cd5a5063f2b40a32ffe180b3e97dc029e710358931aad06ca4e7766a887", checked := Tryf.checked }
namespace Rows
def none {H : Type} : Left H := { results := [], args := [] }

/-- 'zzlaws_internal_api_b1.FnIsLabelValueSymmetricAndLengthBound': WHATEVER THE INPUT: true; the input reads as it did. -/
def fnIsLabelValueSymmetricAndLengthBoundSpec : ChangeSpec := { name := "fnIsLabelValueSymmetricAndLengthBound", fn := fun _ => fun
  | [d] => { results := [.lit (.bool true)], args := [d] }
  | _ => none }
def fnIsLabelValueSymmetricAndLengthBoundRow : OpenClaim := { program := "qxb6615952afmt", sum := "8a3f2cd5a5063f2b40a32ffe180b3e97dc029e710358931aad06ca4e7766a887", func := "example.com/coxswain/coxswain/zzlaws_internal_api_b1.FnIsLabelValueSymmetricAndLengthBound", spec := "fnIsLabelValueSymmetricAndLengthBound", stops := ["fmt.Sprintf"], inPlace := ["fmt.Sprintf"], apart := false }
/-- NO THEOREM (fmt's text is open here; it may be false): for the released tool's asking of the row's closed facts alone. THE STATEMENT IS 'FnIsLabelValueSymmetricAndLengthBoundToldSaid' (Qxb6615952aFmtCards.lean). -/
def FnIsLabelValueSymmetricAndLengthBoundFormAsk : Prop := fnIsLabelValueSymmetricAndLengthBoundRow.holds Tryf.pinned (OpenSpec.ofChange fnIsLabelValueSymmetricAndLengthBoundSpec)

/-- ITS FALSE NEIGHBOUR: 'it returns false'. Refute it at one input. -/
def fnIsLabelValueSymmetricAndLengthBoundWrong : ChangeSpec := { name := "fnIsLabelValueSymmetricAndLengthBound", fn := fun _ => fun
  | [d] => { results := [.lit (.bool false)], args := [d] }
  | _ => none }
def FnIsLabelValueSymmetricAndLengthBoundWrongFormAsk : Prop := fnIsLabelValueSymmetricAndLengthBoundRow.holds Tryf.pinned (OpenSpec.ofChange fnIsLabelValueSymmetricAndLengthBoundWrong)

/-- 'zzlaws_internal_api_b1.FnIsLabelValueJoinBySeparator': WHATEVER THE INPUT: true; the input reads as it did. -/
def fnIsLabelValueJoinBySeparatorSpec : ChangeSpec := { name := "fnIsLabelValueJoinBySeparator", fn := fun _ => fun
  | [d1, d2, d3] => { results := [.lit (.bool true)], args := [d1, d2, d3] }
  | _ => none }
def fnIsLabelValueJoinBySeparatorRow : OpenClaim := { program := "qxb6615952afmt", sum := "8a3f2cd5a5063f2b40a32ffe180b3e97dc029e710358931aad06ca4e7766a887", func := "example.com/coxswain/coxswain/zzlaws_internal_api_b1.FnIsLabelValueJoinBySeparator", spec := "fnIsLabelValueJoinBySeparator", stops := ["fmt.Sprintf"], inPlace := ["fmt.Sprintf"], apart := false }
/-- NO THEOREM (fmt's text is open here; it may be false): for the released tool's asking of the row's closed facts alone. THE STATEMENT IS 'FnIsLabelValueJoinBySeparatorToldSaid' (Qxb6615952aFmtCards.lean). -/
def FnIsLabelValueJoinBySeparatorFormAsk : Prop := fnIsLabelValueJoinBySeparatorRow.holds Tryf.pinned (OpenSpec.ofChange fnIsLabelValueJoinBySeparatorSpec)

/-- ITS FALSE NEIGHBOUR: 'it returns false'. Refute it at one input. -/
def fnIsLabelValueJoinBySeparatorWrong : ChangeSpec := { name := "fnIsLabelValueJoinBySeparator", fn := fun _ => fun
  | [d1, d2, d3] => { results := [.lit (.bool false)], args := [d1, d2, d3] }
  | _ => none }
def FnIsLabelValueJoinBySeparatorWrongFormAsk : Prop := fnIsLabelValueJoinBySeparatorRow.holds Tryf.pinned (OpenSpec.ofChange fnIsLabelValueJoinBySeparatorWrong)

end Rows
end Go.Proofs.Qxb6615952aFmt
