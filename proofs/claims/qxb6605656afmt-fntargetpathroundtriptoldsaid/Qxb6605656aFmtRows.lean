/-
  No cell of these rows narrows 'for every input' (looked for: loops, veiled, ifaces, maps, wideKeys, modest, calm, conditions, laid).
  DERIVED. THE GIVEN ROWS OF THIS SEAT. 1 by the template 'for every input the law returns true; each argument reads behind the call as it read before'; 0 by the template 'total and deterministic' (their statements: Qxb6605656aFmtTotals.lean).
  GIVEN WITH THE SEED: the statements are not yours to turn. If you find one false, say at which input.
  Laid BY PROGRAM, IN A SANDBOX (cutbox-rows.mjs): the forced cells as the released guide's own fill.sh prints them over the translation 35eaa071f420dd6b… (all of the seat's roots in one cut). By AI agents, Wed Nov 11 2026. No macro, syntax, notation, axiom, sorry.
-/
import Derived.Test.Qxb6605656aFmtChecked
import GoSem.Claim
import GoSem.ClaimJoined
import GoSem.ClaimMapViews
import Derived.JoinedTies
import Derived.KernelRfl
namespace Go.Proofs.Qxb6605656aFmt
/- THE CELL 'sum', in the pinned program and in every row, IS THE sha256 OF THE DUMP (.gsa) THAT Qxb6605656aFmtProg.lean LOADS. Nothing in Lean hashes anything: it is a label: what it is worth is what the hold of that sum in a sandbox is worth. -/
noncomputable def Tryf.pinned : Pinned := { name := "qxb6605656afmt", sum := "35eaa071f420dd6bcca76cac8b826d971f552ed49778c7db842a8227c709036b", checked := Tryf.checked }
namespace Rows
def none {H : Type} : Left H := { results := [], args := [] }

/-- 'zzlaws_plan_b1.FnTargetPathRoundTrip': WHATEVER THE INPUT: true; the input reads as it did. -/
def fnTargetPathRoundTripSpec : ChangeSpec := { name := "fnTargetPathRoundTrip", fn := fun _ => fun
  | [d1, d2] => { results := [.lit (.bool true)], args := [d1, d2] }
  | _ => none }
def fnTargetPathRoundTripRow : OpenClaim := { program := "qxb6605656afmt", sum := "35eaa071f420dd6bcca76cac8b826d971f552ed49778c7db842a8227c709036b", func := "example.com/vestbook/vestbook/zzlaws_plan_b1.FnTargetPathRoundTrip", spec := "fnTargetPathRoundTrip", stops := ["fmt.Sprintf"], inPlace := ["fmt.Sprintf"], apart := false }
/-- NO THEOREM (fmt's text is open here; it may be false): for the released tool's asking of the row's closed facts alone. THE STATEMENT IS 'FnTargetPathRoundTripToldSaid' (Qxb6605656aFmtCards.lean). -/
def FnTargetPathRoundTripFormAsk : Prop := fnTargetPathRoundTripRow.holds Tryf.pinned (OpenSpec.ofChange fnTargetPathRoundTripSpec)

/-- ITS FALSE NEIGHBOUR: 'it returns false'. Refute it at one input. -/
def fnTargetPathRoundTripWrong : ChangeSpec := { name := "fnTargetPathRoundTrip", fn := fun _ => fun
  | [d1, d2] => { results := [.lit (.bool false)], args := [d1, d2] }
  | _ => none }
def FnTargetPathRoundTripWrongFormAsk : Prop := fnTargetPathRoundTripRow.holds Tryf.pinned (OpenSpec.ofChange fnTargetPathRoundTripWrong)

end Rows
end Go.Proofs.Qxb6605656aFmt
