/-
  DERIVED. GIVEN WITH THE SEED: THE CARDS: each row of Qxb6614540aFmtRows.lean that lists a variable, with what it lists TIED to the program's text (the seventh form; the later family's looks); each row that meets fmt, with fmt's text TOLD by the authors' own Lean function (tested against real Go, not proved from fmt's source: count such statements apart). THE CARD IS WHAT COUNTS. Prove the row's statement (the work); the ties are given (Qxb6614540aFmtTie.lean); close each card by the builder's one call (the guide's Derived/Test/ToyasCard.lean, 'card_holds'). Laid BY PROGRAM, IN A SANDBOX (cutbox-door.mjs). By AI agents, Wed Nov 11 2026. No macro, syntax, notation, axiom, sorry.
-/
import Derived.Test.Qxb6614540aFmtRows
import GoSem.ClaimSeven
namespace Go.Proofs.Qxb6614540aFmt
namespace Rows

/-- THE TOLD AND TIED CARD OF 'zzlaws_root_b1.FnLostWrapsLeadershipLost'. -/
def fnLostWrapsLeadershipLostCard : Claim7 := { stood := { row := fnLostWrapsLeadershipLostRow, standIns := [], harness := (true, "baae99d783eb067eeb65fb82d28780fce0cfea44cd99024030308b43b8c6c82e"), looks := true }, told := true, laidByText := true, laidKinds := [.sentinel], laidTests := true, laidLooks := .later, goes := false }
def FnLostWrapsLeadershipLostToldSaid : Prop := Claim7.holds Tryf.pinned (.plain (OpenSpec.ofChange fnLostWrapsLeadershipLostSpec)) fnLostWrapsLeadershipLostCard
/-- ITS FALSE NEIGHBOUR. Refute it at one input. -/
def FnLostWrapsLeadershipLostToldWrongFalsely : Prop := Claim7.holds Tryf.pinned (.plain (OpenSpec.ofChange fnLostWrapsLeadershipLostWrong)) fnLostWrapsLeadershipLostCard
end Rows
end Go.Proofs.Qxb6614540aFmt
