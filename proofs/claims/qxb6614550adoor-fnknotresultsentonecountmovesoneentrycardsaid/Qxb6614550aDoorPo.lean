/-
  WHAT 'laid' GIVES: the variable knotKinds leads to the four kinds.
-/
import Derived.Test.Qxb6614550aDoorWd
import Derived.ProofKit
import Derived.OpenShut
import Derived.ChangeOld
import Derived.OpenVars
import Derived.Deep.Slices
import Derived.Deep.Strs
import Derived.ChangeSame
import Derived.ChangeVars
import Derived.JoinedOf
import Derived.RowKit
import Derived.RowKitTokens
import Derived.LaidLaws
import Derived.LaidHandle
import Derived.Stop.Joined
namespace Go.Proofs.Qxb6614550aDoor
open Go.ChangeShapes Go.WideShapes Go.ChangeAt Go.RowKit Go.Deep

theorem Tryd.own : ownKnob Tryd.prog.godebug = none := by kernel_rfl
theorem Tryd.laidOut : laidOutB Tryd.prog = true := by kernel_rfl
theorem Tryd.cells9 : Tryd.prog.cellsOf 9 = 1 := by kernel_rfl
/-- The variable's name, as the given specification has it. -/
def gName : String := Rows.fnKnotResultSentAddsByKindSpec.vars.headD ""
theorem Tryd.gK : Tryd.prog.globalNamed gName = some 0 := by kernel_rfl
theorem Tryd.gKType : (Tryd.prog.globals[0]?).map (·.type) = some 46 := by kernel_rfl

theorem bytes_eq {a b : ByteArray} (h : a.data.toList = b.data.toList) : a = b := by
  cases a; cases b; simp only [ByteArray.mk.injEq]; exact Array.toList_inj.1 h

set_option maxRecDepth 100000 in
theorem kinds_of_laid {W : World} (h : laidMet Tryd.prog [(gName, Rows.laid_example_com_knotwatch_knotwatch_knotKinds)] W) :
    ∃ g o c, W.cell? ⟨0, 0, none⟩ = some (.slice (some ⟨g, o, none⟩) 4 c) ∧ KindsAt W g o := by
  obtain ⟨ps, ⟨g0, t0, cs0, f0, p0, q0, hg0, ht0, hv0, hd0, _, e0⟩, _, hrows⟩ := h
  obtain rfl := Option.some.inj (Tryd.gK.symm.trans hg0)
  obtain rfl := Option.some.inj (Tryd.gKType.symm.trans ht0)
  obtain ⟨l0⟩ := cs0
  have hv := World.var?_cell Tryd.gK hv0 0
  rcases open_strs Tryd.underlying46 Tryd.underlying9 Tryd.cells9 hd0 with ⟨_, hx⟩ | ⟨a, len, cap, m, Sx, hcs, _, hl, hm, hmm, hx, hc⟩
  · cases hx
  simp at hcs
  subst hcs
  simp only [if_true] at hmm
  subst hmm
  unfold Rows.laid_example_com_knotwatch_knotwatch_knotKinds at hx
  simp only [Prod.mk.injEq, DataW.slice.injEq] at hx
  obtain ⟨⟨h1, _⟩, _⟩ := hx
  have hlen : len = 4 := by have := congrArg List.length h1; simpa using this.symm
  subst hlen
  simp [List.range_succ] at h1
  obtain ⟨d0, d1, d2, d3⟩ := h1
  have hk : ∀ j, j < 4 → Sx j = kindAt j := by
    intro j hj
    match j, hj with
    | 0, _ => exact bytes_eq d0.symm
    | 1, _ => exact bytes_eq d1.symm
    | 2, _ => exact bytes_eq d2.symm
    | 3, _ => exact bytes_eq d3.symm
  obtain ⟨g, o, spot⟩ := a
  have hspot : spot = none := by simpa [Addr.add] using World.cell?_spot (hc 0 (by omega)).1
  subst hspot
  refine ⟨g, o, m, by simpa using hv, World.block_lt_of_cell? _ _ (hc 0 (by omega)).1, fun j hj => ?_⟩
  have := (hc j (by omega)).1
  rw [hk j hj, add_plain] at this
  exact this

/-- A start that fits, where a variable holds a slice that is not nil. -/
theorem witness_ref {H : Type} {enc : TypeId × Value → H} {os : Os} {f : FuncId} {fn : Func} {s : ChangeSpec} {X : World → Array Value → Prop} (w0 : World) (args : Array Value) (fuel : Nat) (hos : w0.os = os)
    (hv : (w0.forCall (fun _ _ => 0) ⟨#[], args, []⟩).variablesRefB Tryd.checked.prog = true)
    (hr : ((w0.forCall (fun _ _ => 0) ⟨#[], args, []⟩).heap.toList.drop Tryd.checked.prog.globals.size).take ((begin Tryd.checked.prog (fun _ _ => 0) default).world.heap.size - Tryd.checked.prog.globals.size) =
      (begin Tryd.checked.prog (fun _ _ => 0) default).world.heap.toList.drop Tryd.checked.prog.globals.size)
    (hok : Input.okWideB Tryd.checked.prog (w0.forCall (fun _ _ => 0) ⟨#[], args, []⟩) f ⟨#[], args, []⟩ = true)
    (hpre : s.preB enc Tryd.checked.prog fn [] false (w0.forCall (fun _ _ => 0) ⟨#[], args, []⟩).memory args fuel = true)
    (hsz : s.sizedB enc Tryd.checked.prog fn false (w0.forCall (fun _ _ => 0) ⟨#[], args, []⟩).memory args fuel = true)
    (hx : X (w0.forCall (fun _ _ => 0) ⟨#[], args, []⟩).memory args) :
    ∃ (w : World) (tape : Tape) (i : Input), w.os = os ∧ (w.forCall tape i).Shaped Tryd.checked.prog ∧ i.vars = [] ∧ Input.okWide Tryd.checked.prog (w.forCall tape i) .any w.heap.size f i ∧
      ((s.pre enc Tryd.checked.prog fn [] false (w.forCall tape i).memory i.args ∧ X (w.forCall tape i).memory i.args) ∧ sizedMet enc Tryd.checked.prog fn (OpenSpec.ofChange s) false (w.forCall tape i).memory i.args) ∧ ({ modest := false } : Assume).holds Tryd.checked.prog (lone (Frame.enter Tryd.checked.prog f i.args .normal) [] (w.forCall tape i)) :=
  ⟨w0, fun _ _ => 0, ⟨#[], args, []⟩, hos, World.shaped_of_RefB hv hr, (Input.okWide_of_okWideB (base := 0) hok).1, (Input.okWide_of_okWideB hok).2, ⟨⟨ChangeSpec.pre_of_preB hpre, hx⟩, sizedMet_of_sizedB hsz⟩, by
    simp only [Assume.holds]
    exact ⟨by simp, by simp, fun _ => Modest.zero, by simp, by simp⟩⟩
end Go.Proofs.Qxb6614550aDoor
