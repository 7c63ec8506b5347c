/-
  'Rows.FnLostWrapsLeadershipLostToldSaid' PROVED: the card: fmt's text told, the sentinel tied to the program's text (the tie is the given one).
-/
import Derived.Test.Qxb6614540aFmtWa
import Derived.Test.Qxb6614540aFmtTie
import Derived.Test.Qxb6614540aFmtCards
import Derived.ProofKit
import Derived.Stop.JoinedAt
import Derived.Stop.Texts
import Derived.Stop.JoinedTold
import Derived.Stop.LaidErr
import Derived.SevenTiedAt
import Derived.ChangeOld
import Derived.OpenShut
import Derived.WalkSmall
namespace Go.Proofs.Qxb6614540aFmt
open Go.ChangeShapes Go.WideShapes Go.ChangeAt Go.RowKit Go.Kit
open Go.Extern.Stop Go.Stop Go.Extern

theorem Tryf.own : ownKnob Tryf.prog.godebug = none := by kernel_rfl
theorem Tryf.laidOut : laidOutB Tryf.pinned.checked.prog = true := by kernel_rfl
theorem Tryf.stops : Tryf.pinned.checked.prog.stops = ["fmt.errorf"] := by kernel_rfl
theorem Tryf.stopKnobs : Tryf.pinned.checked.prog.stopKnobs = [] := by kernel_rfl
theorem Tryf.quiet (os : Os) : Stop.quiet Tryf.pinned.checked.prog os := by
  intro k hk
  rw [Tryf.stopKnobs] at hk
  cases hk
/-- The variable's name, as the given specification has it. -/
def gName : String := Rows.fnLostWrapsLeadershipLostSpec.vars.headD ""
theorem Tryf.gE : Tryf.prog.globalNamed gName = some 0 := by kernel_rfl
theorem Tryf.gEType : (Tryf.prog.globals[0]?).map (·.type) = some 24 := by kernel_rfl
theorem Tryf.cells66 : Tryf.prog.cellsOf 66 = 1 := by kernel_rfl
theorem Tryf.cells9 : Tryf.prog.cellsOf 9 = 1 := by kernel_rfl

/-- What the variable's text is, in bytes. -/
abbrev lostS : ByteArray := { data := #[113, 117, 111, 114, 117, 109, 108, 111, 103, 58, 32, 108, 101, 97, 100, 101, 114, 115, 104, 105, 112, 32, 108, 111, 115, 116, 32, 98, 101, 102, 111, 114, 101, 32, 116, 104, 101, 32, 101, 110, 116, 114, 121, 32, 119, 97, 115, 32, 99, 111, 109, 109, 105, 116, 116, 101, 100] }

theorem row64 (nm : String) (hn : some nm = Tryf.prog.typeName? 3 64) (u : TypeId) (h : Tryf.prog.typeName? 3 u = some nm) : u = 64 := by
  rw [hn] at h
  refine typeName_ptr_named (P := Tryf.prog) (nm := "errors.errorString") (tp := 64) (by kernel_rfl) (by kernel_rfl) (by decide) u ?_
  rw [h]
  kernel_rfl

/-- A start that fits: the variable holds its sentinel. -/
theorem start (os : Os) (H : Type) (enc : TypeId × Value → H) (F : Stop.Interp) :
    ∃ (w : World) (tape : Tape) (i : Input), w.os = os ∧ (w.forCall tape i).Shaped Tryf.checked.prog ∧ i.vars = [] ∧ Input.okWide Tryf.checked.prog (w.forCall tape i) .any w.heap.size 3 i ∧
      (OpenSpec.ofChange Rows.fnLostWrapsLeadershipLostSpec).preRow enc Tryf.checked.prog Tryf.f3 Rows.fnLostWrapsLeadershipLostRow.domain false Rows.fnLostWrapsLeadershipLostRow.laid (w.forCall tape i).memory i.args ∧
      ({ modest := false } : Assume).holds Tryf.checked.prog (lone (Frame.enter Tryf.checked.prog 3 i.args .normal) [] (w.forCall tape i)) ∧ F.answers tape := by
  refine OpenSpec.witness_stopped_at (enc := enc) (C := Tryf.checked) false
    { World.holding Tryf.prog os ⟨#[.cells #[.string lostS] 66], #[], []⟩ with heap := (World.holding Tryf.prog os ⟨#[.cells #[.string lostS] 66], #[], []⟩).heap.modify 0 fun
      | .cells _ t frozen => .cells #[.iface 64 (.pointer (some ⟨(World.holding Tryf.prog default ⟨#[], #[], []⟩).heap.size, 0, none⟩))] t frozen
      | o => o }
    #[.int .u64 0, .int .u64 0, .int .u64 0, .bool false, .bool false, .int .u64 0] rfl (by kernel_rfl) (by kernel_rfl) (by kernel_rfl) (OpenSpec.preRow_of_B rfl 8 (by kernel_rfl) (by kernel_rfl) ?_) F
  exact laidMet_of_run (ps := [.cell 0 0, .cell (World.holding Tryf.prog default ⟨#[], #[], []⟩).heap.size 0]) 8 (by kernel_rfl) (by kernel_rfl) (by kernel_rfl)

set_option maxRecDepth 100000 in
set_option maxHeartbeats 4000000 in
theorem lifted (os : Os) (started : os.Started) (H : Type) (enc : TypeId × Value → H) :
    ReturnsInTold none {} Tryf.checked os 3 .any Input.okWide ((OpenSpec.ofChange Rows.fnLostWrapsLeadershipLostSpec).preRow enc Tryf.prog Tryf.f3 Rows.fnLostWrapsLeadershipLostRow.domain false Rows.fnLostWrapsLeadershipLostRow.laid)
      (fun F => ((OpenSpec.ofChange Rows.fnLostWrapsLeadershipLostSpec).at F).post enc Tryf.prog Tryf.f3 false true false false) (aloneAtReturn Tryf.prog) nothingAlways := by
  refine returnsInTold_of_row (C := Tryf.checked) (s := OpenSpec.ofChange Rows.fnLostWrapsLeadershipLostSpec) (by kernel_rfl) Tryf.own started (by kernel_rfl) Tryf.func3 (start os H enc) ?_
  intro F W base args ds gs before _ hF hval0 hW _ _ _ hL _
  have hval : ∀ (j : Nat) t v, Tryf.f3.params[j]? = some t → args[j]? = some v → Value.okWide Tryf.prog W .any base t v := hval0
  have hW' := hW
  obtain ⟨p, q, hA0, hV0, rfl, hfz, hnd⟩ := hW
  have hA : DataW.TrodAll enc Tryf.prog W 0 (fun _ => true) true Tryf.f3.params.toList args.toList ds p := hA0
  have hV : DataW.TrodVars enc Tryf.prog W (fun _ => true) [gName] gs q := hV0
  rw [Tryf.params3] at hA hval
  obtain ⟨v0, vs0, d0, ds0, p0, q0, hargs, rfl, rfl, h0, r0⟩ := trodAll_cons hA
  obtain ⟨v1, vs1, d1, ds1, p1, q1, rfl, rfl, rfl, h1, r1⟩ := trodAll_cons r0
  obtain ⟨v2, vs2, d2, ds2, p2, q2, rfl, rfl, rfl, h2, r2⟩ := trodAll_cons r1
  obtain ⟨v3, vs3, d3, ds3, p3, q3, rfl, rfl, rfl, h3, r3⟩ := trodAll_cons r2
  obtain ⟨v4, vs4, d4, ds4, p4, q4, rfl, rfl, rfl, h4, r4⟩ := trodAll_cons r3
  obtain ⟨v5, vs5, d5, ds5, p5, q5, rfl, rfl, rfl, h5, r5⟩ := trodAll_cons r4
  obtain ⟨rfl, rfl, rfl⟩ := trodAll_nil r5
  obtain rfl : args = #[v0, v1, v2, v3, v4, v5] := by cases args; simp_all
  obtain ⟨a0, rfl, rfl, rfl, w0⟩ := open_int Tryf.underlying22 (hval 0 22 v0 rfl rfl) h0
  obtain ⟨a1, rfl, rfl, rfl, w1⟩ := open_int Tryf.underlying22 (hval 1 22 v1 rfl rfl) h1
  obtain ⟨a2, rfl, rfl, rfl, w2⟩ := open_int Tryf.underlying22 (hval 2 22 v2 rfl rfl) h2
  obtain ⟨a3, rfl, rfl, rfl⟩ := open_bool Tryf.underlying4 (hval 3 4 v3 rfl rfl) h3
  obtain ⟨a4, rfl, rfl, rfl⟩ := open_bool Tryf.underlying4 (hval 4 4 v4 rfl rfl) h4
  obtain ⟨a5, rfl, rfl, rfl, w5⟩ := open_int Tryf.underlying22 (hval 5 22 v5 rfl rfl) h5
  have hL' : laidMet Tryf.prog Rows.fnLostWrapsLeadershipLostRow.laid W := hL
  obtain ⟨a, s, hv, hc, hs, hz⟩ := laid_sentinel (g := 0) (n := gName) hL' Tryf.gE Tryf.gEType Tryf.underlying24 (row64 _ (by kernel_rfl)) Tryf.underlying64 Tryf.underlying66 rfl rfl Tryf.underlying9 Tryf.cells66 Tryf.cells9
  have vr : ∀ {X : World}, X.var? Tryf.prog gName = some #[.iface 64 (.pointer (some a))] → ∀ sp : Nat → Bool, DataW.TrodVars enc Tryf.prog X sp [gName] [tok enc (.iface 64 (.pointer (some a)))] [.cell 0 0] :=
    fun x sp => vars_read1 enc Tryf.gE Tryf.gEType Tryf.underlying24 x trivial sp
  obtain ⟨rfl, rfl⟩ := hV.unique (vr hv _)
  have hg : W.cell? ⟨0, 0, none⟩ = some (.iface 64 (.pointer (some a))) := by simpa using World.var?_cell Tryf.gE hv 0
  clear hA0 hV0 hval0
  refine (law_any F.told a0 a1 a2 a3 a4 a5 a s W hF hg hc).mono fun e W' ⟨he, bel⟩ => ?_
  subst he
  refine ⟨_, rfl, _, _, _, [], [], [.cell 0 0], hW', ?_, ?_, ?_, bel.frame _, fun h => by cases h⟩
  · exact trodAll_mk1 (shut_bool Tryf.underlying4 _)
  · exact (trodAll_cons_mk (shut_int Tryf.underlying22 w0) (trodAll_cons_mk (shut_int Tryf.underlying22 w1) (trodAll_cons_mk (shut_int Tryf.underlying22 w2) (trodAll_cons_mk (shut_bool Tryf.underlying4 _) (trodAll_cons_mk (shut_bool Tryf.underlying4 _) (trodAll_cons_mk (shut_int Tryf.underlying22 w5) trodAll_mk0))))))
  · exact vr (var?_below bel Tryf.gE (World.block_lt_of_cell? _ _ hg) hv) _

/-- ████ THE STATEMENT ████ -/
theorem fnLostWrapsLeadershipLost_told : Rows.FnLostWrapsLeadershipLostToldSaid :=
  Claim7.holds_of_told_tied_any_at .later 3 Tryf.f3 "fmt.errorf" [] [] _ _ _ _ _ (by kernel_rfl) rfl rfl rfl Tryf.laidOut (by kernel_rfl) rfl ⟨rfl, rfl, rfl, rfl, rfl, rfl, rfl⟩ rfl rfl (by kernel_rfl) (by kernel_rfl) Tryf.func3 (by kernel_rfl)
    (of_decide_eq_true (by kernel_rfl)) (of_decide_eq_true (by kernel_rfl)) Tryf.stops.symm rfl Tryf.stopKnobs.symm (by kernel_rfl)
    (by kernel_rfl) (by kernel_rfl) (by kernel_rfl) (by kernel_rfl) (by kernel_rfl) (by kernel_rfl) (by kernel_rfl) (by kernel_rfl) (by kernel_rfl) rfl (by kernel_rfl) rfl rfl
    rfl rfl
    rfl (by kernel_rfl) (by kernel_rfl) (by kernel_rfl) (by decide) (by kernel_rfl) fnLostWrapsLeadershipLost_row_tie
    (OpenClaim.moreEntering_of (by kernel_rfl) (by kernel_rfl) (by kernel_rfl) (by kernel_rfl) (by kernel_rfl) (by kernel_rfl) (by kernel_rfl) (by kernel_rfl) (by kernel_rfl) (by kernel_rfl))
    ⟨_, WideRow.started_initial, Tryf.quiet _⟩
    (fun os started _ H enc _ => lifted os started H enc)
end Go.Proofs.Qxb6614540aFmt
