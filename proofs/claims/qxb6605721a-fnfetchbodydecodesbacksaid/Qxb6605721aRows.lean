/-
  No cell of these rows narrows 'for every input' (looked for: loops, veiled, ifaces, maps, wideKeys, modest, calm, conditions, laid).
  DERIVED. THE GIVEN ROWS OF THIS SEAT. 2 by the template 'for every input the law returns true; each argument reads behind the call as it read before'; 0 by the template 'total and deterministic' (their statements: Qxb6605721aTotals.lean).
  GIVEN WITH THE SEED: the statements are not yours to turn. If you find one false, say at which input.
  Laid BY PROGRAM, IN A SANDBOX (cutbox-rows.mjs): the forced cells as the released guide's own fill.sh prints them over the translation 6b5a24879cb4abbe… (all of the seat's roots in one cut). By AI agents, Wed Nov 11 2026. No macro, syntax, notation, axiom, sorry.
-/
import Derived.Test.Qxb6605721aChecked
import GoSem.Claim
import GoSem.ClaimJoined
import GoSem.ClaimMapViews
import Derived.JoinedTies
import Derived.KernelRfl
namespace Go.Proofs.Qxb6605721a
/- THE CELL 'sum', in the pinned program and in every row, IS THE sha256 OF THE DUMP (.gsa) THAT Qxb6605721aProg.lean LOADS. Nothing in Lean hashes anything: it is a label: what it is worth is what the hold of that sum in a sandbox is worth. -/
noncomputable def Try.pinned : Pinned := { name := "qxb6605721a", sum := "6b5a24879cb4abbe1507b2286c0cf7ce8eb998ac1f7e8406f04ac329844115b5", checked := Try.checked }
namespace Rows
def none {H : Type} : Left H := { results := [], args := [] }

/-- 'zzlaws_wire_b1.FnFetchBodyDecodesBack': WHATEVER THE INPUT: true; the input reads as it did. -/
def fnFetchBodyDecodesBackSpec : ChangeSpec := { name := "fnFetchBodyDecodesBack", fn := fun _ => fun
  | [d1, d2, d3, d4] => { results := [.lit (.bool true)], args := [d1, d2, d3, d4] }
  | _ => none }
def fnFetchBodyDecodesBackRow : OpenClaim := { program := "qxb6605721a", sum := "6b5a24879cb4abbe1507b2286c0cf7ce8eb998ac1f7e8406f04ac329844115b5", func := "example.com/ringwise/ringwise/zzlaws_wire_b1.FnFetchBodyDecodesBack", spec := "fnFetchBodyDecodesBack", apart := false }
def FnFetchBodyDecodesBackSaid : Prop := fnFetchBodyDecodesBackRow.holds Try.pinned (OpenSpec.ofChange fnFetchBodyDecodesBackSpec)

/-- ITS FALSE NEIGHBOUR: 'it returns false'. Refute it at one input. -/
def fnFetchBodyDecodesBackWrong : ChangeSpec := { name := "fnFetchBodyDecodesBack", fn := fun _ => fun
  | [d1, d2, d3, d4] => { results := [.lit (.bool false)], args := [d1, d2, d3, d4] }
  | _ => none }
def FnFetchBodyDecodesBackWrongFalsely : Prop := fnFetchBodyDecodesBackRow.holds Try.pinned (OpenSpec.ofChange fnFetchBodyDecodesBackWrong)

/-- 'zzlaws_wire_b1.FnFetchBodyInjective': WHATEVER THE INPUT: true; the input reads as it did. -/
def fnFetchBodyInjectiveSpec : ChangeSpec := { name := "fnFetchBodyInjective", fn := fun _ => fun
  | [d1, d2, d3, d4, d5, d6, d7] => { results := [.lit (.bool true)], args := [d1, d2, d3, d4, d5, d6, d7] }
  | _ => none }
def fnFetchBodyInjectiveRow : OpenClaim := { program := "qxb6605721a", sum := "6b5a24879cb4abbe1507b2286c0cf7ce8eb998ac1f7e8406f04ac329844115b5", func := "example.com/ringwise/ringwise/zzlaws_wire_b1.FnFetchBodyInjective", spec := "fnFetchBodyInjective", apart := false }
def FnFetchBodyInjectiveSaid : Prop := fnFetchBodyInjectiveRow.holds Try.pinned (OpenSpec.ofChange fnFetchBodyInjectiveSpec)

/-- ITS FALSE NEIGHBOUR: 'it returns false'. Refute it at one input. -/
def fnFetchBodyInjectiveWrong : ChangeSpec := { name := "fnFetchBodyInjective", fn := fun _ => fun
  | [d1, d2, d3, d4, d5, d6, d7] => { results := [.lit (.bool false)], args := [d1, d2, d3, d4, d5, d6, d7] }
  | _ => none }
def FnFetchBodyInjectiveWrongFalsely : Prop := fnFetchBodyInjectiveRow.holds Try.pinned (OpenSpec.ofChange fnFetchBodyInjectiveWrong)

end Rows
end Go.Proofs.Qxb6605721a
