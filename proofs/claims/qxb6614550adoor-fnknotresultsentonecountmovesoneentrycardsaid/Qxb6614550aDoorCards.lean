/-
  DERIVED. GIVEN WITH THE SEED: THE CARDS: each row of Qxb6614550aDoorRows.lean that lists a variable, with what it lists TIED to the program's text (the seventh form; the later family's looks); each row that meets fmt, with fmt's text TOLD by the authors' own Lean function (tested against real Go, not proved from fmt's source: count such statements apart). THE CARD IS WHAT COUNTS. Prove the row's statement (the work); the ties are given (Qxb6614550aDoorTie.lean); close each card by the builder's one call (the guide's Derived/Test/ToyasCard.lean, 'card_holds'). Laid BY PROGRAM, IN A SANDBOX (cutbox-door.mjs). By AI agents, Wed Nov 11 2026. No macro, syntax, notation, axiom, sorry.
-/
import Derived.Test.Qxb6614550aDoorRows
import GoSem.ClaimSeven
namespace Go.Proofs.Qxb6614550aDoor
namespace Rows

/-- THE TIED CARD OF 'zzlaws_root_b1.FnKnotResultSentAddsByKind'. -/
def fnKnotResultSentAddsByKindCard : Claim7 := { stood := { row := fnKnotResultSentAddsByKindRow, standIns := [], harness := (true, "d064626dd514425fbdcf24ac24b6e62f050c36d9ca6dd404808a57c7e04a842d"), looks := true }, kinds := [], alts := [], laidByText := true, laidKinds := [.widerDeep], laidTests := true, laidLooks := .later }
def FnKnotResultSentAddsByKindCardSaid : Prop := Claim7.holds Tryd.pinned (.plain (OpenSpec.ofChange fnKnotResultSentAddsByKindSpec)) fnKnotResultSentAddsByKindCard

/-- THE TIED CARD OF 'zzlaws_root_b1.FnKnotResultSentOneCountMovesOneEntry'. -/
def fnKnotResultSentOneCountMovesOneEntryCard : Claim7 := { stood := { row := fnKnotResultSentOneCountMovesOneEntryRow, standIns := [], harness := (true, "d064626dd514425fbdcf24ac24b6e62f050c36d9ca6dd404808a57c7e04a842d"), looks := true }, kinds := [], alts := [], laidByText := true, laidKinds := [.widerDeep], laidTests := true, laidLooks := .later }
def FnKnotResultSentOneCountMovesOneEntryCardSaid : Prop := Claim7.holds Tryd.pinned (.plain (OpenSpec.ofChange fnKnotResultSentOneCountMovesOneEntrySpec)) fnKnotResultSentOneCountMovesOneEntryCard

/-- THE TIED CARD OF 'zzlaws_root_b1.FnCsvErrorNamesTheLineAndSticks'. -/
def fnCsvErrorNamesTheLineAndSticksCard : Claim7 := { stood := { row := fnCsvErrorNamesTheLineAndSticksRow, standIns := [], harness := (true, "d064626dd514425fbdcf24ac24b6e62f050c36d9ca6dd404808a57c7e04a842d"), looks := true }, kinds := [], alts := [], laidByText := true, laidKinds := [.handle], laidTests := true, laidLooks := .later }
def FnCsvErrorNamesTheLineAndSticksCardSaid : Prop := Claim7.holds Tryd.pinned (.plain (OpenSpec.ofChange fnCsvErrorNamesTheLineAndSticksSpec)) fnCsvErrorNamesTheLineAndSticksCard
end Rows
end Go.Proofs.Qxb6614550aDoor
