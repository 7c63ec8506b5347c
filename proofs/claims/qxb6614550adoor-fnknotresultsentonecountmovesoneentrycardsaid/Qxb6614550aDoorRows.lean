/-
  NARROWER THAN 'FOR EVERY INPUT', by the rows' own cells (each row's printed sentence says how): FnKnotResultSentAddsByKind: laid · FnKnotResultSentOneCountMovesOneEntry: laid · FnCsvErrorNamesTheLineAndSticks: laid.
  DERIVED. THE GIVEN ROWS OF THIS SEAT. 3 by the template 'for every input the law returns true; each argument reads behind the call as it read before'; 0 by the template 'total and deterministic' (their statements: Qxb6614550aDoorTotals.lean).
  GIVEN WITH THE SEED: the statements are not yours to turn. If you find one false, say at which input.
  Laid BY PROGRAM, IN A SANDBOX (cutbox-rows.mjs): the forced cells as the released guide's own fill.sh prints them over the translation d64d16915bd8dc15… (all of the seat's roots in one cut). By AI agents, Wed Nov 11 2026. No macro, syntax, notation, axiom, sorry.
-/
import Derived.Test.Qxb6614550aDoorChecked
import GoSem.Claim
import GoSem.ClaimJoined
import GoSem.ClaimMapViews
import Derived.JoinedTies
import Derived.KernelRfl
namespace Go.Proofs.Qxb6614550aDoor
/- THE CELL 'sum', in the pinned program and in every row, IS THE sha256 OF THE DUMP (.gsa) THAT Qxb6614550aDoorProg.lean LOADS. Nothing in Lean hashes anything: it is a label: what it is worth is what the hold of that sum in a sandbox is worth. -/
noncomputable def Tryd.pinned : Pinned := { name := "qxb6614550adoor", sum := "d64d16915bd8dc150953ea67cff070ee278866762100d300237f78b31ce9682d", checked := Tryd.checked }
namespace Rows
def none {H : Type} : Left H := { results := [], args := [] }

/- WHAT THE LISTED PACKAGE-LEVEL VARIABLES READ AS WHEN THE CALL BEGINS. Each datum BY PROGRAM (the guide's laid-datum.mjs) off the statement by which the dump's own 'gosem.cut.vars' lays the variable. In a bare row this is a premise. The card (Qxb6614550aDoorCards.lean) ties it to the program's text. -/
def laid_example_com_knotwatch_knotwatch_knotKinds {H : Type} : DataW H := .slice [.lit (.string [109, 49]), .lit (.string [109, 50]), .lit (.string [109, 51]), .lit (.string [97, 99, 107])] []
def laid_errors_errorType {H : Type} : DataW H := .iface "internal/reflectlite.rtype" (.agg [.ptr (.lit (.string [101, 114, 114, 111, 114]))])

/-- 'zzlaws_root_b1.FnKnotResultSentAddsByKind': WHATEVER THE INPUT: true; the input reads as it did. -/
def fnKnotResultSentAddsByKindSpec : ChangeSpec := { name := "fnKnotResultSentAddsByKind", vars := ["example.com/knotwatch/knotwatch.knotKinds"], fn := fun _ => fun
  | [d1, d2, d3, d4, d5, d6, d7, d8, d9, d10, g1] => { results := [.lit (.bool true)], args := [d1, d2, d3, d4, d5, d6, d7, d8, d9, d10], vars := [g1] }
  | _ => none }
def fnKnotResultSentAddsByKindRow : OpenClaim := { program := "qxb6614550adoor", sum := "d64d16915bd8dc150953ea67cff070ee278866762100d300237f78b31ce9682d", func := "example.com/knotwatch/knotwatch/zzlaws_root_b1.FnKnotResultSentAddsByKind", spec := "fnKnotResultSentAddsByKind", named := ["example.com/knotwatch/knotwatch.knotKinds"], apart := false, laid := [("example.com/knotwatch/knotwatch.knotKinds", laid_example_com_knotwatch_knotwatch_knotKinds)] }
def FnKnotResultSentAddsByKindSaid : Prop := fnKnotResultSentAddsByKindRow.holds Tryd.pinned (OpenSpec.ofChange fnKnotResultSentAddsByKindSpec)

/-- ITS FALSE NEIGHBOUR: 'it returns false'. Refute it at one input. -/
def fnKnotResultSentAddsByKindWrong : ChangeSpec := { name := "fnKnotResultSentAddsByKind", vars := ["example.com/knotwatch/knotwatch.knotKinds"], fn := fun _ => fun
  | [d1, d2, d3, d4, d5, d6, d7, d8, d9, d10, g1] => { results := [.lit (.bool false)], args := [d1, d2, d3, d4, d5, d6, d7, d8, d9, d10], vars := [g1] }
  | _ => none }
def FnKnotResultSentAddsByKindWrongFalsely : Prop := fnKnotResultSentAddsByKindRow.holds Tryd.pinned (OpenSpec.ofChange fnKnotResultSentAddsByKindWrong)

/-- 'zzlaws_root_b1.FnKnotResultSentOneCountMovesOneEntry': WHATEVER THE INPUT: true; the input reads as it did. -/
def fnKnotResultSentOneCountMovesOneEntrySpec : ChangeSpec := { name := "fnKnotResultSentOneCountMovesOneEntry", vars := ["example.com/knotwatch/knotwatch.knotKinds"], fn := fun _ => fun
  | [d1, d2, d3, d4, d5, d6, d7, d8, g1] => { results := [.lit (.bool true)], args := [d1, d2, d3, d4, d5, d6, d7, d8], vars := [g1] }
  | _ => none }
def fnKnotResultSentOneCountMovesOneEntryRow : OpenClaim := { program := "qxb6614550adoor", sum := "d64d16915bd8dc150953ea67cff070ee278866762100d300237f78b31ce9682d", func := "example.com/knotwatch/knotwatch/zzlaws_root_b1.FnKnotResultSentOneCountMovesOneEntry", spec := "fnKnotResultSentOneCountMovesOneEntry", named := ["example.com/knotwatch/knotwatch.knotKinds"], apart := false, laid := [("example.com/knotwatch/knotwatch.knotKinds", laid_example_com_knotwatch_knotwatch_knotKinds)] }
def FnKnotResultSentOneCountMovesOneEntrySaid : Prop := fnKnotResultSentOneCountMovesOneEntryRow.holds Tryd.pinned (OpenSpec.ofChange fnKnotResultSentOneCountMovesOneEntrySpec)

/-- ITS FALSE NEIGHBOUR: 'it returns false'. Refute it at one input. -/
def fnKnotResultSentOneCountMovesOneEntryWrong : ChangeSpec := { name := "fnKnotResultSentOneCountMovesOneEntry", vars := ["example.com/knotwatch/knotwatch.knotKinds"], fn := fun _ => fun
  | [d1, d2, d3, d4, d5, d6, d7, d8, g1] => { results := [.lit (.bool false)], args := [d1, d2, d3, d4, d5, d6, d7, d8], vars := [g1] }
  | _ => none }
def FnKnotResultSentOneCountMovesOneEntryWrongFalsely : Prop := fnKnotResultSentOneCountMovesOneEntryRow.holds Tryd.pinned (OpenSpec.ofChange fnKnotResultSentOneCountMovesOneEntryWrong)

/-- 'zzlaws_root_b1.FnCsvErrorNamesTheLineAndSticks': WHATEVER THE INPUT: true; the input reads as it did. -/
def fnCsvErrorNamesTheLineAndSticksSpec : ChangeSpec := { name := "fnCsvErrorNamesTheLineAndSticks", fn := fun _ => fun
  | [d1, d2, d3, d4, d5, d6, d7] => { results := [.lit (.bool true)], args := [d1, d2, d3, d4, d5, d6, d7] }
  | _ => none }
def fnCsvErrorNamesTheLineAndSticksRow : OpenClaim := { program := "qxb6614550adoor", sum := "d64d16915bd8dc150953ea67cff070ee278866762100d300237f78b31ce9682d", func := "example.com/knotwatch/knotwatch/zzlaws_root_b1.FnCsvErrorNamesTheLineAndSticks", spec := "fnCsvErrorNamesTheLineAndSticks", inPlace := ["internal/reflectlite.ValueOf", "(internal/reflectlite.Value).Type", "(internal/reflectlite.Value).IsNil", "internal/reflectlite.TypeOf", "(internal/reflectlite.Value).Elem", "(internal/reflectlite.Value).Set"], unfollowed := true, recurses := true, named := ["errors.errorType"], apart := false, laid := [("errors.errorType", laid_errors_errorType)] }
def FnCsvErrorNamesTheLineAndSticksSaid : Prop := fnCsvErrorNamesTheLineAndSticksRow.holds Tryd.pinned (OpenSpec.ofChange fnCsvErrorNamesTheLineAndSticksSpec)

/-- ITS FALSE NEIGHBOUR: 'it returns false'. Refute it at one input. -/
def fnCsvErrorNamesTheLineAndSticksWrong : ChangeSpec := { name := "fnCsvErrorNamesTheLineAndSticks", fn := fun _ => fun
  | [d1, d2, d3, d4, d5, d6, d7] => { results := [.lit (.bool false)], args := [d1, d2, d3, d4, d5, d6, d7] }
  | _ => none }
def FnCsvErrorNamesTheLineAndSticksWrongFalsely : Prop := fnCsvErrorNamesTheLineAndSticksRow.holds Tryd.pinned (OpenSpec.ofChange fnCsvErrorNamesTheLineAndSticksWrong)

end Rows
end Go.Proofs.Qxb6614550aDoor
