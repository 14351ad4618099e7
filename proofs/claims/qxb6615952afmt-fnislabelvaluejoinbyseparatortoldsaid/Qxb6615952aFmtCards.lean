/-
  DERIVED. GIVEN WITH THE SEED: THE CARDS: each row of Qxb6615952aFmtRows.lean that lists a variable, with what it lists TIED to the program's text (the seventh form; the later family's looks); each row that meets fmt, with fmt's text TOLD by the authors' own Lean function (tested against real Go, not proved from fmt's source: count such statements apart). THE CARD IS WHAT COUNTS. Prove the row's statement (the work); the ties are given (Qxb6615952aFmtTie.lean); close each card by the builder's one call (the guide's Derived/Test/ToyasCard.lean, 'card_holds'). Laid BY PROGRAM, IN A SANDBOX (cutbox-door.mjs). By AI agents, Wed Nov 11 2026. No macro, syntax, notation, axiom, sorry.
-/
import Derived.Test.Qxb6615952aFmtRows
import GoSem.ClaimSeven
namespace Go.Proofs.Qxb6615952aFmt
namespace Rows

/-- THE TOLD CARD OF 'zzlaws_internal_api_b1.FnIsLabelValueSymmetricAndLengthBound'. -/
def fnIsLabelValueSymmetricAndLengthBoundCard : Claim7 := { stood := { row := fnIsLabelValueSymmetricAndLengthBoundRow, standIns := [], harness := (true, "5cbe33cb32dd07c68438b4377510ffcd90fe3575639016f68818e75948e6896c"), looks := false }, told := true, goes := false }
def FnIsLabelValueSymmetricAndLengthBoundToldSaid : Prop := Claim7.holds Tryf.pinned (.plain (OpenSpec.ofChange fnIsLabelValueSymmetricAndLengthBoundSpec)) fnIsLabelValueSymmetricAndLengthBoundCard
/-- ITS FALSE NEIGHBOUR. Refute it at one input. -/
def FnIsLabelValueSymmetricAndLengthBoundToldWrongFalsely : Prop := Claim7.holds Tryf.pinned (.plain (OpenSpec.ofChange fnIsLabelValueSymmetricAndLengthBoundWrong)) fnIsLabelValueSymmetricAndLengthBoundCard

/-- THE TOLD CARD OF 'zzlaws_internal_api_b1.FnIsLabelValueJoinBySeparator'. -/
def fnIsLabelValueJoinBySeparatorCard : Claim7 := { stood := { row := fnIsLabelValueJoinBySeparatorRow, standIns := [], harness := (true, "5cbe33cb32dd07c68438b4377510ffcd90fe3575639016f68818e75948e6896c"), looks := false }, told := true, goes := false }
def FnIsLabelValueJoinBySeparatorToldSaid : Prop := Claim7.holds Tryf.pinned (.plain (OpenSpec.ofChange fnIsLabelValueJoinBySeparatorSpec)) fnIsLabelValueJoinBySeparatorCard
/-- ITS FALSE NEIGHBOUR. Refute it at one input. -/
def FnIsLabelValueJoinBySeparatorToldWrongFalsely : Prop := Claim7.holds Tryf.pinned (.plain (OpenSpec.ofChange fnIsLabelValueJoinBySeparatorWrong)) fnIsLabelValueJoinBySeparatorCard
end Rows
end Go.Proofs.Qxb6615952aFmt
