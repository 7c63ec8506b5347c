/-
  'Rows.FnKnotResultSentOneCountMovesOneEntryCardSaid' PROVED: the row, then the tied card (the tie is the given one).
-/
import Derived.Test.Qxb6614550aDoorWf
import Derived.Test.Qxb6614550aDoorPo
import Derived.Test.Qxb6614550aDoorTie
import Derived.Test.Qxb6614550aDoorCards
import Derived.ChangeSame
import Derived.ChangeVars
import Derived.JoinedOf
import Derived.RowKit
import Derived.RowKitTokens
import Derived.LaidLaws
import Derived.LaidHandle
import Derived.Stop.Joined
import Derived.SevenTiedAt
namespace Go.Proofs.Qxb6614550aDoor
open Go.ChangeShapes Go.WideShapes Go.ChangeAt Go.RowKit

set_option maxRecDepth 100000 in
set_option maxHeartbeats 1000000 in
theorem one_lifted (os : Os) (started : os.Started) (H : Type) (enc : TypeId × Value → H) :
    ReturnsInHanded {} Tryd.checked os 4 .any (fun w args => (Rows.fnKnotResultSentOneCountMovesOneEntrySpec.pre enc Tryd.prog Tryd.f4 Rows.fnKnotResultSentOneCountMovesOneEntryRow.domain false w args ∧ laidMetH Tryd.prog Rows.fnKnotResultSentOneCountMovesOneEntryRow.laid w) ∧ sizedMet enc Tryd.prog Tryd.f4 (OpenSpec.ofChange Rows.fnKnotResultSentOneCountMovesOneEntrySpec) false w args)
      (Rows.fnKnotResultSentOneCountMovesOneEntrySpec.post enc Tryd.prog Tryd.f4 false true false false) := by
  refine returnsInHanded_of_change_and (C := Tryd.checked) (X := fun w _ => laidMetH Tryd.prog Rows.fnKnotResultSentOneCountMovesOneEntryRow.laid w) (fun _ _ _ hh h => h.of_heap hh) Tryd.own started (by kernel_rfl) Tryd.func4
    (witness_ref (enc := enc) (os := os) (X := fun w _ => laidMetH Tryd.prog Rows.fnKnotResultSentOneCountMovesOneEntryRow.laid w)
      { World.holding Tryd.prog os ⟨#[.cells #[.string k1, .string k2, .string k3, .string k4] 9], #[], []⟩ with heap := (World.holding Tryd.prog os ⟨#[.cells #[.string k1, .string k2, .string k3, .string k4] 9], #[], []⟩).heap.modify 0 fun
        | .cells _ t frozen => .cells #[.slice (some ⟨(World.holding Tryd.prog default ⟨#[], #[], []⟩).heap.size, 0, none⟩) 4 4] t frozen
        | o => o }
      #[.bool false, .int .i64 0, .int .i64 0, .int .i64 0, .int .i64 0, .int .i64 0, .int .i64 0, .int .i64 0] 8 rfl (by kernel_rfl) (by kernel_rfl) (by kernel_rfl) (by kernel_rfl) (by kernel_rfl)
      (laidMet_of_run (ps := [.cell 0 0, .cell (World.holding Tryd.prog default ⟨#[], #[], []⟩).heap.size 0, .cell (World.holding Tryd.prog default ⟨#[], #[], []⟩).heap.size 1, .cell (World.holding Tryd.prog default ⟨#[], #[], []⟩).heap.size 2, .cell (World.holding Tryd.prog default ⟨#[], #[], []⟩).heap.size 3]) 8 (by kernel_rfl) (by kernel_rfl) (by kernel_rfl))) ?_
  intro W base args ds gs before hval0 hW _ _ hL _
  have hval : ∀ (j : Nat) t v, Tryd.f4.params[j]? = some t → args[j]? = some v → Value.okWide Tryd.prog W .any base t v := hval0
  have hW' := hW
  obtain ⟨p, q, hA0, hV0, rfl, hfz, hnd⟩ := hW
  have hA : DataW.TrodAll enc Tryd.prog W 0 (fun _ => true) true Tryd.f4.params.toList args.toList ds p := hA0
  have hV : DataW.TrodVars enc Tryd.prog W (fun _ => true) [gName] gs q := hV0
  rw [Tryd.params4] at hA hval
  obtain ⟨v0, vs0, d0, ds0, p0, q0, hargs, rfl, rfl, h0, r0⟩ := trodAll_cons hA
  obtain ⟨v1, vs1, d1, ds1, p1, q1, rfl, rfl, rfl, h1, r1⟩ := trodAll_cons r0
  obtain ⟨v2, vs2, d2, ds2, p2, q2, rfl, rfl, rfl, h2, r2⟩ := trodAll_cons r1
  obtain ⟨v3, vs3, d3, ds3, p3, q3, rfl, rfl, rfl, h3, r3⟩ := trodAll_cons r2
  obtain ⟨v4, vs4, d4, ds4, p4, q4, rfl, rfl, rfl, h4, r4⟩ := trodAll_cons r3
  obtain ⟨v5, vs5, d5, ds5, p5, q5, rfl, rfl, rfl, h5, r5⟩ := trodAll_cons r4
  obtain ⟨v6, vs6, d6, ds6, p6, q6, rfl, rfl, rfl, h6, r6⟩ := trodAll_cons r5
  obtain ⟨v7, vs7, d7, ds7, p7, q7, rfl, rfl, rfl, h7, r7⟩ := trodAll_cons r6
  obtain ⟨rfl, rfl, rfl⟩ := trodAll_nil r7
  obtain rfl : args = #[v0, v1, v2, v3, v4, v5, v6, v7] := by cases args; simp_all
  obtain ⟨a0, rfl, rfl, rfl⟩ := open_bool Tryd.underlying4 (hval 0 4 v0 rfl rfl) h0
  obtain ⟨a1, rfl, rfl, rfl, w1⟩ := open_int Tryd.underlying3 (hval 1 3 v1 rfl rfl) h1
  obtain ⟨a2, rfl, rfl, rfl, w2⟩ := open_int Tryd.underlying3 (hval 2 3 v2 rfl rfl) h2
  obtain ⟨a3, rfl, rfl, rfl, w3⟩ := open_int Tryd.underlying3 (hval 3 3 v3 rfl rfl) h3
  obtain ⟨a4, rfl, rfl, rfl, w4⟩ := open_int Tryd.underlying3 (hval 4 3 v4 rfl rfl) h4
  obtain ⟨a5, rfl, rfl, rfl, w5⟩ := open_int Tryd.underlying2 (hval 5 2 v5 rfl rfl) h5
  obtain ⟨a6, rfl, rfl, rfl, w6⟩ := open_int Tryd.underlying3 (hval 6 3 v6 rfl rfl) h6
  obtain ⟨a7, rfl, rfl, rfl, w7⟩ := open_int Tryd.underlying3 (hval 7 3 v7 rfl rfl) h7
  have hL' : laidMet Tryd.prog [(gName, Rows.laid_example_com_knotwatch_knotwatch_knotKinds)] W := hL
  obtain ⟨g, o, c, hg, hk⟩ := kinds_of_laid hL'
  have hgl : ∃ y, gs = [y] := by
    match gs, hV with
    | [y], _ => exact ⟨y, rfl⟩
    | [], h => exact h.elim
    | _ :: _ :: _, ⟨_, _, _, _, _, _, _, _, _, _, h, _⟩ => exact h.elim
  obtain ⟨y, rfl⟩ := hgl
  clear hA0 hV0 hval0
  refine (law_one a0 a1 a2 a3 a4 a5 a6 a7 g o c W hg hk w1 w2 w3 w4 w7).mono fun e W' ⟨he, bel⟩ => ?_
  subst he
  refine ⟨_, rfl, _, _, _, [], [], q, hW', ?_, ?_, ?_, bel.frame _, fun h => by cases h⟩
  · exact trodAll_mk1 (shut_bool Tryd.underlying4 _)
  · exact trodAll_cons_mk (shut_bool Tryd.underlying4 _) (trodAll_cons_mk (shut_int Tryd.underlying3 w1) (trodAll_cons_mk (shut_int Tryd.underlying3 w2) (trodAll_cons_mk (shut_int Tryd.underlying3 w3) (trodAll_cons_mk (shut_int Tryd.underlying3 w4) (trodAll_cons_mk (shut_int Tryd.underlying2 w5) (trodAll_cons_mk (shut_int Tryd.underlying3 w6) (trodAll_cons_mk (shut_int Tryd.underlying3 w7) trodAll_mk0)))))))
  · exact Below.trodVars Tryd.laidOut bel (by kernel_rfl) hV

theorem one_row : Rows.FnKnotResultSentOneCountMovesOneEntrySaid :=
  OpenClaim.holds_of_wide 4 Tryd.f4 rfl rfl rfl rfl rfl rfl rfl ⟨rfl, rfl, rfl, rfl, rfl⟩ rfl rfl rfl rfl rfl (by kernel_rfl) Tryd.func4 (by kernel_rfl)
    (of_decide_eq_true (by kernel_rfl)) (by unfold Func.isWrapper; rw [if_neg (of_decide_eq_false (by kernel_rfl))]; exact ⟨rfl, rfl⟩)
    (fun os started H enc _ => one_lifted os started H enc)

theorem no_stand_in4 (j : Nat) (t : TypeId) (ht : Tryd.f4.params[j]? = some t) : Tryd.prog.wantsStandIn t = false := by
  have h : (Tryd.f4.params.toList.all fun t => !Tryd.prog.wantsStandIn t) = true := by kernel_rfl
  have := List.all_eq_true.1 h t (List.mem_of_getElem? (by simpa using ht))
  simpa using this

/-- ████ THE STATEMENT ████ -/
theorem fnKnotResultSentOneCountMovesOneEntry_card : Rows.FnKnotResultSentOneCountMovesOneEntryCardSaid :=
  Claim7.holds_tied_plain_at .later [] [.widerDeep] true _ true
    one_row (fun _ h => by cases h) (by kernel_rfl) (fun _ h => by cases h) fnKnotResultSentOneCountMovesOneEntry_row_tie rfl ⟨rfl, rfl⟩ (by kernel_rfl) rfl
    (fun f fn hf hfn => by
      obtain rfl : f = 4 := Option.some.inj ((show Tryd.prog.funcNamed Rows.fnKnotResultSentOneCountMovesOneEntryRow.func = some 4 by kernel_rfl).symm.trans hf) |>.symm
      obtain rfl : fn = Tryd.f4 := (Option.some.inj (Tryd.func4.symm.trans hfn)).symm
      exact ⟨by kernel_rfl, no_stand_in4⟩)
    (by kernel_rfl)
end Go.Proofs.Qxb6614550aDoor
