/-
  HOW THE ARGUMENTS ARE OPENED: a slice of ConfigRow, a slice of uint64.
-/
import Derived.Test.Qxb6614540aWb
import Derived.ProofKit
import Derived.OpenShut
import Derived.ShutString
import Derived.ChangeOld
import Derived.Below
import Derived.Deep.Slices
import Derived.Deep.Strs
namespace Go.Proofs.Qxb6614540a
open Go.ChangeShapes Go.WideShapes Go.ChangeAt Go.RowKit Go.Deep

theorem Try.own : ownKnob Try.prog.godebug = none := by kernel_rfl
theorem Try.laidOut : laidOutB Try.prog = true := by kernel_rfl
theorem Try.cells39 : Try.prog.cellsOf 39 = 3 := by kernel_rfl
theorem Try.cells22 : Try.prog.cellsOf 22 = 1 := by kernel_rfl
theorem Try.cells9 : Try.prog.cellsOf 9 = 1 := by kernel_rfl
theorem Try.cells5 : Try.prog.cellsOf 5 = 1 := by kernel_rfl

theorem three_of {α : Type} {l : List α} (h : l.length = 3) : ∃ a b c, l = [a, b, c] := by
  match l, h with
  | [a, b, c], _ => exact ⟨a, b, c, rfl⟩

set_option maxRecDepth 100000 in
theorem open_rows {H : Type} {enc : TypeId × Value → H} {W : World} {a0 : Option Addr} {len cap : Nat} {d : DataW H} {p : List MemPlace}
    (h : DataW.Trod enc Try.prog W 0 (fun _ => true) true 23 (.slice a0 len cap) d p) : ∃ ID Ad Pt, len ≤ maxLen ∧ RowsIn W a0 len ID Ad Pt := by
  obtain ⟨fuel, hf⟩ := h
  rcases open_slice Try.underlying23 hf with ⟨hcs, _⟩ | ⟨a, l, c, m, n, D, Pl, hcs, _, hl, hm, hmm, _, hx⟩
  · simp [Value.cells] at hcs
    obtain ⟨rfl, rfl, rfl⟩ := hcs
    exact ⟨fun _ => 0, fun _ => ByteArray.empty, fun _ => 0, by simp, fun k hk => absurd hk (by omega)⟩
  · simp [Value.cells] at hcs
    obtain ⟨rfl, rfl, rfl⟩ := hcs
    simp only [if_true] at hmm
    subst hmm
    have each : ∀ i, i < len → ∃ q : Int × ByteArray × Int, ∃ b off, a = ⟨b, off, none⟩ ∧ b < W.heap.size ∧ W.cell? ⟨b, off + i * 3, none⟩ = some (.int .u64 q.1) ∧
        W.cell? ⟨b, off + i * 3 + 1, none⟩ = some (.string q.2.1) ∧ W.cell? ⟨b, off + i * 3 + 2, none⟩ = some (.int .u8 q.2.2) := by
      intro i hi
      obtain ⟨cs', h1, h2⟩ := hx i (by omega)
      rw [Try.cells39] at h1
      obtain ⟨_, hlen, hcell⟩ := World.cells?_some h1
      obtain ⟨y0, y1, y2, k, _, _, g0, g1, g2⟩ := trod_struct3 Try.underlying39 h2
      obtain ⟨v0, v1, v2, rfl⟩ := three_of hlen
      simp [Try.cells22, Try.cells9, Try.cells5] at g0 g1 g2
      obtain ⟨x0, e0, _, _⟩ := DataW.trod_int Try.underlying22 g0
      obtain ⟨x1, e1, _, _⟩ := DataW.trod_string Try.underlying9 g1
      obtain ⟨x2, e2, _, _⟩ := DataW.trod_int Try.underlying5 g2
      simp at e0 e1 e2
      subst e0 e1 e2
      have f0 := hcell 0 (by omega)
      have f1 := hcell 1 (by omega)
      have f2 := hcell 2 (by omega)
      rw [add_add] at f0 f1 f2
      obtain ⟨b, off, spot⟩ := a
      have hspot : spot = none := by
        obtain ⟨cs0, j1, _⟩ := hx 0 (by omega)
        rw [Try.cells39] at j1
        obtain ⟨_, hl0, hcell0⟩ := World.cells?_some j1
        obtain ⟨u0, u1, u2, rfl⟩ := three_of hl0
        have h00 := hcell0 0 (by omega)
        have := World.cell?_spot (show _ = some u0 from h00)
        simpa [Addr.add] using this
      subst hspot
      simp [Addr.add_lit] at f0 f1 f2
      refine ⟨(x0, x1, x2), b, off, rfl, World.block_lt_of_cell? _ _ f0, f0, ?_, ?_⟩
      · rw [show off + i * 3 + 1 = off + (i * 3 + 1) from by omega]; exact f1
      · rw [show off + i * 3 + 2 = off + (i * 3 + 2) from by omega]; exact f2
    obtain ⟨q, hq⟩ := choose_lt each
    refine ⟨fun i => (q i).1, fun i => (q i).2.1, fun i => (q i).2.2, by omega, fun k hk => ?_⟩
    obtain ⟨b, off, rfl, hb, c0, c1, c2⟩ := hq k hk
    exact ⟨b, off, rfl, hb, c0, c1, c2⟩

theorem open_peers {H : Type} {enc : TypeId × Value → H} {W : World} {a0 : Option Addr} {len cap : Nat} {d : DataW H} {p : List MemPlace}
    (h : DataW.Trod enc Try.prog W 0 (fun _ => true) true 24 (.slice a0 len cap) d p) : ∃ Z, len ≤ maxLen ∧ PeersIn W a0 len Z := by
  obtain ⟨fuel, hf⟩ := h
  rcases open_ints Try.underlying24 Try.underlying22 Try.cells22 hf with ⟨hcs, _⟩ | ⟨x, l, c, zs, hcs, _, hl, hm, hz, _, hcell, hwz⟩
  · simp [Value.cells] at hcs
    obtain ⟨rfl, rfl, rfl⟩ := hcs
    exact ⟨fun _ => 0, by simp, fun k hk => absurd hk (by omega)⟩
  · simp [Value.cells] at hcs
    obtain ⟨rfl, rfl, rfl⟩ := hcs
    simp only [if_true] at hz
    refine ⟨fun k => zs.getD k 0, by omega, fun k hk => ?_⟩
    obtain ⟨b, off, rfl, hc⟩ := ints_at hcell (by omega)
    have := hc k (by omega)
    exact ⟨b, off, rfl, World.block_lt_of_cell? _ _ this, this⟩
end Go.Proofs.Qxb6614540a
