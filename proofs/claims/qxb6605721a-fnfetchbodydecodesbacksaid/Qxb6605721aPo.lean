/-
  HOW THE ARGUMENTS ARE OPENED: a slice of bytes, an array of 20 bytes.
-/
import Derived.Test.Qxb6605721aWa
import Derived.ProofKit
import Derived.OpenShut
import Derived.ShutString
import Derived.ChangeOld
import Derived.Below
import Derived.Deep.Slices
import Derived.Deep.Strs
namespace Go.Proofs.Qxb6605721a
open Go.ChangeShapes Go.WideShapes Go.ChangeAt Go.RowKit Go.Deep
open Extern.Stop (cell)

theorem Try.own : ownKnob Try.prog.godebug = none := by kernel_rfl
theorem Try.laidOut : laidOutB Try.prog = true := by kernel_rfl
theorem Try.cells23 : Try.prog.cellsOf 23 = 20 := by kernel_rfl
theorem Try.cells5 : Try.prog.cellsOf 5 = 1 := by kernel_rfl

theorem byte_of {x : Int} (h : (Lit.int .u8 x).wf = true) : ∃ b : UInt8, x = (b.toNat : Int) := by
  simp [Lit.wf, IntKind.min, IntKind.max, IntKind.signed, IntKind.bits] at h
  refine ⟨UInt8.ofNat x.toNat, ?_⟩
  rw [UInt8.toNat_ofNat']
  omega
theorem bytes_of : ∀ {zs : List Int}, (∀ n ∈ zs, (Lit.int .u8 n).wf = true) → ∃ xs : List UInt8, zs = xs.map fun b => (b.toNat : Int)
  | [], _ => ⟨[], rfl⟩
  | z :: zs, h => by
    obtain ⟨b, hb⟩ := byte_of (h z (by simp))
    obtain ⟨xs, hx⟩ := bytes_of (zs := zs) (fun n hn => h n (by simp [hn]))
    exact ⟨b :: xs, by rw [hb, hx]; rfl⟩

theorem open_bs {H : Type} {enc : TypeId × Value → H} {W : World} {a0 : Option Addr} {len cap : Nat} {d : DataW H} {p : List MemPlace}
    (h : DataW.Trod enc Try.prog W 0 (fun _ => true) true 22 (.slice a0 len cap) d p) : ∃ xs : List UInt8, len ≤ maxLen ∧ xs.length = len ∧ SrcIn W a0 xs ∧ (a0 = none → len = 0) := by
  obtain ⟨fuel, hf⟩ := h
  rcases open_ints Try.underlying22 Try.underlying5 Try.cells5 hf with ⟨hcs, _⟩ | ⟨x, l, c, zs, hcs, _, hl, hm, hz, _, hcell, hwz⟩
  · simp [Value.cells] at hcs
    obtain ⟨rfl, rfl, rfl⟩ := hcs
    exact ⟨[], by simp, rfl, fun k hk => absurd hk (by simp), fun _ => rfl⟩
  · simp [Value.cells] at hcs
    obtain ⟨rfl, rfl, rfl⟩ := hcs
    simp only [if_true] at hz
    by_cases h0 : len = 0
    · subst h0
      exact ⟨[], by simp, rfl, fun k hk => absurd hk (by simp), fun e => by cases e⟩
    · obtain ⟨b, off, rfl, hc⟩ := ints_at hcell (by omega)
      obtain ⟨ys, rfl⟩ := bytes_of hwz
      simp only [List.length_map] at hz
      refine ⟨ys.take len, by omega, by rw [List.length_take]; omega, fun k hk => ?_, fun e => by cases e⟩
      have hk' : k < ys.length := by rw [List.length_take] at hk; omega
      have := hc k (by simpa using hk')
      have e : (ys.map fun b => (b.toNat : Int)).getD k 0 = (ys[k].toNat : Int) := by simp [List.getD, hk']
      rw [e] at this
      refine ⟨b, off, rfl, World.block_lt_of_cell? _ _ this, ?_⟩
      rw [this, List.getElem_take]; rfl

theorem cells_of : ∀ {L : List Value}, (∀ u ∈ L, ∃ b : UInt8, u = cell b) → ∃ A : List UInt8, L = bv A
  | [], _ => ⟨[], rfl⟩
  | u :: L, h => by
    obtain ⟨b, hb⟩ := h u (by simp)
    obtain ⟨A, hA⟩ := cells_of (L := L) (fun n hn => h n (by simp [hn]))
    exact ⟨b :: A, by rw [hb, hA]; rfl⟩

theorem open_arr {H : Type} {enc : TypeId × Value → H} {W : World} {v : Value} {d : DataW H} {p : List MemPlace}
    (h : DataW.Trod enc Try.prog W 0 (fun _ => true) true 23 v d p) : ∃ A : List UInt8, v = av A ∧ A.length = 20 := by
  obtain ⟨fuel, hf⟩ := h
  obtain ⟨xs, m, _, _, hl, hxs, hi⟩ := DataW.trod_array Try.underlying23 hf
  rw [Try.cells23] at hl
  rw [Try.cells5] at hi
  have each : ∀ i, i < 20 → ∃ b : UInt8, v.cells.toList[i]? = some (cell b) := by
    intro i hlt
    have h1 := hi i hlt
    rw [List.getElem?_eq_getElem (by omega)] at h1
    obtain ⟨x0, e0, a, b⟩ := DataW.trod_int Try.underlying5 h1
    obtain ⟨q, rfl⟩ := byte_of b
    refine ⟨q, ?_⟩
    have e1 : (List.take 1 (List.drop (i * 1) v.cells.toList))[0]? = some (cell q) := by rw [e0]; rfl
    simpa using e1
  have all : ∀ u ∈ v.cells.toList, ∃ b : UInt8, u = cell b := by
    intro u hu
    obtain ⟨i, hlt, rfl⟩ := List.mem_iff_getElem.1 hu
    obtain ⟨b, hb⟩ := each i (by omega)
    rw [List.getElem?_eq_getElem hlt] at hb
    exact ⟨b, Option.some.inj hb⟩
  obtain ⟨A, hA⟩ := cells_of all
  have hlA : A.length = 20 := by rw [hA] at hl; simpa using hl
  refine ⟨A, ?_, hlA⟩
  have hc : v.cells = (bv A).toArray := by rw [← hA]
  cases v with
  | agg c => exact congrArg Value.agg hc
  | _ => simp [Value.cells] at hl
end Go.Proofs.Qxb6605721a
