/-
  NARROWER THAN 'FOR EVERY INPUT', by the rows' own cells (each row's printed sentence says how): FnLostWrapsLeadershipLost: ifaces, laid.
  DERIVED. THE GIVEN ROWS OF THIS SEAT. 1 by the template 'for every input the law returns true; each argument reads behind the call as it read before'; 0 by the template 'total and deterministic' (their statements: Qxb6614540aFmtTotals.lean).
  GIVEN WITH THE SEED: the statements are not yours to turn. If you find one false, say at which input.
  Laid BY PROGRAM, IN A SANDBOX (cutbox-rows.mjs): the forced cells as the released guide's own fill.sh prints them over the translation b28630e186a501b5… (all of the seat's roots in one cut). By AI agents, Wed Nov 11 2026. No macro, syntax, notation, axiom, sorry.
-/
import Derived.Test.Qxb6614540aFmtChecked
import GoSem.Claim
import GoSem.ClaimJoined
import GoSem.ClaimMapViews
import Derived.JoinedTies
import Derived.KernelRfl
namespace Go.Proofs.Qxb6614540aFmt
/- THE CELL 'sum', in the pinned program and in every row, IS THE sha256 OF THE DUMP (.gsa) THAT Qxb6614540aFmtProg.lean LOADS. Nothing in Lean hashes anything: it is a label: what it is worth is what the hold of that sum in a sandbox is worth. -/
noncomputable def Tryf.pinned : Pinned := { name := "qxb6614540afmt", sum := "b28630e186a501b5d75167a1bc5f4a7227d90923e3434d953bee36534ce61167", checked := Tryf.checked }
namespace Rows
def none {H : Type} : Left H := { results := [], args := [] }

/- WHAT THE LISTED PACKAGE-LEVEL VARIABLES READ AS WHEN THE CALL BEGINS. Each datum BY PROGRAM (the guide's laid-datum.mjs) off the statement by which the dump's own 'gosem.cut.vars' lays the variable. In a bare row this is a premise. The card (Qxb6614540aFmtCards.lean) ties it to the program's text. -/
def laid_example_com_quorumlog_quorumlog_ErrLeadershipLost {H : Type} : DataW H := .iface "*errors.errorString" (.ptr (.agg [.lit (.string [113, 117, 111, 114, 117, 109, 108, 111, 103, 58, 32, 108, 101, 97, 100, 101, 114, 115, 104, 105, 112, 32, 108, 111, 115, 116, 32, 98, 101, 102, 111, 114, 101, 32, 116, 104, 101, 32, 101, 110, 116, 114, 121, 32, 119, 97, 115, 32, 99, 111, 109, 109, 105, 116, 116, 101, 100])]))

/-- 'zzlaws_root_b1.FnLostWrapsLeadershipLost': WHATEVER THE INPUT: true; the input reads as it did. -/
def fnLostWrapsLeadershipLostSpec : ChangeSpec := { name := "fnLostWrapsLeadershipLost", vars := ["example.com/quorumlog/quorumlog.ErrLeadershipLost"], fn := fun _ => fun
  | [d1, d2, d3, d4, d5, d6, g1] => { results := [.lit (.bool true)], args := [d1, d2, d3, d4, d5, d6], vars := [g1] }
  | _ => none }
def fnLostWrapsLeadershipLostRow : OpenClaim := { program := "qxb6614540afmt", sum := "b28630e186a501b5d75167a1bc5f4a7227d90923e3434d953bee36534ce61167", func := "example.com/quorumlog/quorumlog/zzlaws_root_b1.FnLostWrapsLeadershipLost", spec := "fnLostWrapsLeadershipLost", stops := ["fmt.errorf"], inPlace := ["fmt.errorf", "internal/reflectlite.TypeOf"], unfollowed := true, recurses := true, named := ["example.com/quorumlog/quorumlog.ErrLeadershipLost"], ifaces := true, apart := false, laid := [("example.com/quorumlog/quorumlog.ErrLeadershipLost", laid_example_com_quorumlog_quorumlog_ErrLeadershipLost)] }
/-- NO THEOREM (fmt's text is open here; it may be false): for the released tool's asking of the row's closed facts alone. THE STATEMENT IS 'FnLostWrapsLeadershipLostToldSaid' (Qxb6614540aFmtCards.lean). -/
def FnLostWrapsLeadershipLostFormAsk : Prop := fnLostWrapsLeadershipLostRow.holds Tryf.pinned (OpenSpec.ofChange fnLostWrapsLeadershipLostSpec)

/-- ITS FALSE NEIGHBOUR: 'it returns false'. Refute it at one input. -/
def fnLostWrapsLeadershipLostWrong : ChangeSpec := { name := "fnLostWrapsLeadershipLost", vars := ["example.com/quorumlog/quorumlog.ErrLeadershipLost"], fn := fun _ => fun
  | [d1, d2, d3, d4, d5, d6, g1] => { results := [.lit (.bool false)], args := [d1, d2, d3, d4, d5, d6], vars := [g1] }
  | _ => none }
def FnLostWrapsLeadershipLostWrongFormAsk : Prop := fnLostWrapsLeadershipLostRow.holds Tryf.pinned (OpenSpec.ofChange fnLostWrapsLeadershipLostWrong)

end Rows
end Go.Proofs.Qxb6614540aFmt
