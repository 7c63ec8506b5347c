import Derived.Test.Qxb6614550aDoorRows
import Derived.WalkKit
import Derived.WalkSpells
import Derived.WalkLawsBesides
import Derived.Maps.Own
import Derived.Maps.OwnOps
import Derived.Maps.RangeWalk
import Derived.Maps.Ext
import Derived.Deep.RegionWith
namespace Go.Proofs.Qxb6614550aDoor
open Go.RowKit Go.Maps Go.WideMaps

theorem law : Keyed Tryd.prog 9 := string_keyed Tryd.underlying9

/-- How a pointer into block b reads, for the proof's own book-keeping: as its offset. -/
def ptrElem (b : Nat) {H : Type} (v : Value) : Option (DataW H × List MemPlace) :=
  match v with
  | .pointer (some ⟨b', off, none⟩) => if b' = b then some (.lit (.int .i64 off), []) else none
  | _ => none
theorem ptrElem_mk (b off : Nat) {H : Type} : ptrElem (H := H) b (.pointer (some ⟨b, off, none⟩)) = some (.lit (.int .i64 off), []) := by simp [ptrElem]

/-- The four kinds. -/
abbrev k1 : ByteArray := ⟨#[109, 49]⟩
abbrev k2 : ByteArray := ⟨#[109, 50]⟩
abbrev k3 : ByteArray := ⟨#[109, 51]⟩
abbrev k4 : ByteArray := ⟨#[97, 99, 107]⟩

theorem key_mk (s : ByteArray) (h : s.size ≤ maxLen) : keyOf Tryd.prog 9 (.string s) = some (.string s.data.toList) := keyOf_string_mk Tryd.underlying9 h

theorem ins {w : World} {b B n : Nat} {D : DataW Unit} (h : w.ownsMap Tryd.prog 9 (ptrElem b) B n D) (s : ByteArray) (hs : s.size ≤ maxLen) (off : Nat) (hn : n < 10) :
    ∃ w', (Instr.mapUpdate 49 (.map (some B)) (.string s) (.pointer (some ⟨b, off, none⟩))).run Tryd.prog w = .ok () w' ∧ w'.ownsMap Tryd.prog 9 (ptrElem b) B (n + 1) (D.put (.string s.data.toList) (.lit (.int .i64 off))) ∧ w.grownBy w' (some B) :=
  h.update law Tryd.underlying49 (by unfold maxLen; omega) (key_mk s hs) (ptrElem_mk b off)

/-- What byKind's map reads as. -/
def kindD : DataW Unit := .map [(.string [97, 99, 107], .lit (.int .i64 4)), (.string [109, 49], .lit (.int .i64 1)), (.string [109, 50], .lit (.int .i64 2)), (.string [109, 51], .lit (.int .i64 3))]

/-- In whatever order the four entries were laid: the same datum. -/
theorem put_all (D : DataW Unit) (h : D = kindD) {w : World} {b B : Nat} (hown : w.ownsMap Tryd.prog 9 (ptrElem b) B 4 D) : w.ownsMap Tryd.prog 9 (ptrElem b) B 4 kindD := h ▸ hown

theorem grown4 {w w0 w1 w2 w3 w4 : World} {B : Nat} (h0 : w.grownBy w0 (some B)) (h1 : w0.grownBy w1 (some B)) (h2 : w1.grownBy w2 (some B)) (h3 : w2.grownBy w3 (some B)) (h4 : w3.grownBy w4 (some B)) : w.grownBy w4 (some B) := by
  refine ⟨?_, ?_, ?_, ?_, fun k hk hr => ?_⟩
  · rw [h4.os, h3.os, h2.os, h1.os, h0.os]
  · rw [h4.tape, h3.tape, h2.tape, h1.tape, h0.tape]
  · rw [h4.output, h3.output, h2.output, h1.output, h0.output]
  · have a0 := h0.size; have a1 := h1.size; have a2 := h2.size; have a3 := h3.size; have a4 := h4.size; omega
  · have a0 := h0.size; have a1 := h1.size; have a2 := h2.size; have a3 := h3.size
    rw [h4.block k (by omega) hr, h3.block k (by omega) hr, h2.block k (by omega) hr, h1.block k (by omega) hr, h0.block k hk hr]

set_option maxHeartbeats 4000000 in
set_option maxRecDepth 100000 in
theorem byKind_any (b : Nat) (w : World) :
    Calls Tryd.prog 16 #[.pointer (some ⟨b, 0, none⟩)] w fun e w' => e = .returned (.map (some w.heap.size)) ∧ w'.ownsMap Tryd.prog 9 (ptrElem (H := Unit) b) w.heap.size 4 kindD ∧ w.grownBy w' (some w.heap.size) := by
  have hmm := @run_makeMap Tryd.prog
  have h0 : ((w.alloc (.map #[] 0)).drew).ownsMap Tryd.prog 9 (ptrElem (H := Unit) b) w.heap.size 0 (.map []) := (World.ownsMap_made w Tryd.prog 9 _).drew
  have g0 : w.grownBy ((w.alloc (.map #[] 0)).drew) (some w.heap.size) := ⟨rfl, rfl, rfl, by simp, fun k hk _ => Below.heap_alloc _ _ _ hk⟩
  have l1 : k1.size ≤ maxLen := by decide
  have l2 : k2.size ≤ maxLen := by decide
  have l3 : k3.size ≤ maxLen := by decide
  have l4 : k4.size ≤ maxLen := by decide
  go_enter Tryd.func16, Tryd.ntmps16
  go_wp2
  go_region_with (first
    | (obtain ⟨wn, hrun, hown, hgr⟩ := ins (by assumption) k1 l1 1 (by decide); rw [hrun])
    | (obtain ⟨wn, hrun, hown, hgr⟩ := ins (by assumption) k2 l2 2 (by decide); rw [hrun])
    | (obtain ⟨wn, hrun, hown, hgr⟩ := ins (by assumption) k3 l3 3 (by decide); rw [hrun])
    | (obtain ⟨wn, hrun, hown, hgr⟩ := ins (by assumption) k4 l4 4 (by decide); rw [hrun]))
  all_goals
    go_wp2
    go_ret
    refine ⟨rfl, put_all _ ?_ hown, grown4 g0 (by assumption) (by assumption) (by assumption) hgr⟩
    rfl
end Go.Proofs.Qxb6614550aDoor
