/-
  DERIVED. GIVEN WITH THE SEED: THE CARDS: each row of Qxb6605656aFmtRows.lean that lists a variable, with what it lists TIED to the program's text (the seventh form; the later family's looks); each row that meets fmt, with fmt's text TOLD by the authors' own Lean function (tested against real Go, not proved from fmt's source: count such statements apart). THE CARD IS WHAT COUNTS. Prove the row's statement (the work); the ties are given (Qxb6605656aFmtTie.lean); close each card by the builder's one call (the guide's Derived/Test/ToyasCard.lean, 'card_holds'). Laid BY PROGRAM, IN A SANDBOX (cutbox-door.mjs). By AI agents, Wed Nov 11 2026. No macro, syntax, notation, axiom, sorry.
-/
import Derived.Test.Qxb6605656aFmtRows
import GoSem.ClaimSeven
namespace Go.Proofs.Qxb6605656aFmt
namespace Rows

/-- THE TOLD CARD OF 'zzlaws_plan_b1.FnTargetPathRoundTrip'. -/
def fnTargetPathRoundTripCard : Claim7 := { stood := { row := fnTargetPathRoundTripRow, standIns := [], harness := (true, "14815283cd9399a7c00816fa13677752db48897270634b27ac63cfd6abc26641"), looks := false }, told := true, goes := false }
def FnTargetPathRoundTripToldSaid : Prop := Claim7.holds Tryf.pinned (.plain (OpenSpec.ofChange fnTargetPathRoundTripSpec)) fnTargetPathRoundTripCard
/-- ITS FALSE NEIGHBOUR. Refute it at one input. -/
def FnTargetPathRoundTripToldWrongFalsely : Prop := Claim7.holds Tryf.pinned (.plain (OpenSpec.ofChange fnTargetPathRoundTripWrong)) fnTargetPathRoundTripCard
end Rows
end Go.Proofs.Qxb6605656aFmt
