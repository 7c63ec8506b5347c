import Derived.Test.Qxb6614550aDoorWa
import Derived.Maps.OwnSet
namespace Go.Proofs.Qxb6614550aDoor
open Go.RowKit Go.Maps Go.WideMaps

/-- What the counts' map reads as. -/
def cntD (m1 m2 m3 m4 : Int) : DataW Unit := .map [(.string [97, 99, 107], .lit (.int .i64 m4)), (.string [109, 49], .lit (.int .i64 m1)), (.string [109, 50], .lit (.int .i64 m2)), (.string [109, 51], .lit (.int .i64 m3))]
/-- The count at an offset. -/
def valAt (m1 m2 m3 m4 : Int) (off : Nat) : Int := if off = 1 then m1 else if off = 2 then m2 else if off = 3 then m3 else m4

theorem has_same (m1 m2 m3 m4 : Int) : Maps.has kindD = Maps.has (cntD m1 m2 m3 m4) := rfl

theorem at_same (m1 m2 m3 m4 : Int) (kl : Lit) (off : Nat) (h : ∀ zd, kindD.atKey kl zd = .lit (.int .i64 off)) : (off = 1 ∨ off = 2 ∨ off = 3 ∨ off = 4) ∧ ∀ zd, (cntD m1 m2 m3 m4).atKey kl zd = .lit (.int .i64 (valAt m1 m2 m3 m4 off)) := by
  have h0 := h .nil
  unfold kindD DataW.atKey at h0
  unfold cntD DataW.atKey
  by_cases e4 : (Lit.string [97, 99, 107]).sameKey kl = true
  · simp [List.find?, e4] at h0 ⊢; have : off = 4 := by omega
    subst this; simp [valAt]
  by_cases e1 : (Lit.string [109, 49]).sameKey kl = true
  · simp [List.find?, e4, e1] at h0 ⊢; have : off = 1 := by omega
    subst this; simp [valAt]
  by_cases e2 : (Lit.string [109, 50]).sameKey kl = true
  · simp [List.find?, e4, e1, e2] at h0 ⊢; have : off = 2 := by omega
    subst this; simp [valAt]
  by_cases e3 : (Lit.string [109, 51]).sameKey kl = true
  · simp [List.find?, e4, e1, e2, e3] at h0 ⊢; have : off = 3 := by omega
    subst this; simp [valAt]
  · simp [List.find?, e4, e1, e2, e3] at h0

theorem key_inv (key : Value) (kl : Lit) (h : keyOf Tryd.prog 9 key = some kl) : ∃ x : ByteArray, key = .string x := by
  simp only [keyOf, Tryd.underlying9] at h
  cases key <;> simp [mapKey, Tryd.underlying9] at h
  exact ⟨_, rfl⟩
theorem ptr_inv (b : Nat) (v : Value) (y : DataW Unit × List MemPlace) (h : ptrElem b v = some y) : ∃ off : Nat, v = .pointer (some ⟨b, off, none⟩) := by
  unfold ptrElem at h
  split at h
  · split at h
    · rename_i e; subst e; exact ⟨_, rfl⟩
    · cases h
  · cases h
theorem zero3 (w : World) : (zeroValue 3).run Tryd.prog w = .ok (.int .i64 0) w := by kernel_rfl

theorem cnt_canon (m1 m2 m3 m4 : Int) : Canon (cntD m1 m2 m3 m4) := by
  refine ⟨_, rfl, ?_, ?_⟩
  · refine List.Pairwise.cons ?_ (List.Pairwise.cons ?_ (List.Pairwise.cons ?_ (List.Pairwise.cons ?_ List.Pairwise.nil)))
    all_goals
      intro q hq
      simp at hq
      try (rcases hq with rfl | rfl | rfl <;> rfl)
      try (rcases hq with rfl | rfl <;> rfl)
      try (subst hq; rfl)
  · intro p hp
    simp at hp
    rcases hp with rfl | rfl | rfl | rfl <;> trivial
theorem key_lit {x : ByteArray} {kl : Lit} (h : keyOf Tryd.prog 9 (.string x) = some kl) : kl = .string x.data.toList ∧ x.size ≤ maxLen := by
  simp only [keyOf, Tryd.underlying9] at h
  simp [mapKey, Tryd.underlying9] at h
  exact ⟨h.2.symm, h.1⟩
theorem run_mm (w : World) (n : Int) : (Instr.makeMap 47 (some (.int .i64 n))).run Tryd.prog w = .ok (.map (some w.heap.size)) (w.alloc (.map #[] 0)) := by
  simp [Instr.makeMap, run_underlying Tryd.underlying47, asInt, newObj, go_sem]
  rfl

set_option maxHeartbeats 1000000 in
set_option maxRecDepth 100000 in
theorem fieldCounts_any (b B : Nat) (m1 m2 m3 m4 : Int) (w : World) (hown : w.ownsMap Tryd.prog 9 (ptrElem (H := Unit) b) B 4 kindD)
    (c1 : w.cell? ⟨b, 1, none⟩ = some (.int .i64 m1)) (c2 : w.cell? ⟨b, 2, none⟩ = some (.int .i64 m2)) (c3 : w.cell? ⟨b, 3, none⟩ = some (.int .i64 m3)) (c4 : w.cell? ⟨b, 4, none⟩ = some (.int .i64 m4))
    (hw1 : (Lit.int .i64 m1).wf = true) (hw2 : (Lit.int .i64 m2).wf = true) (hw3 : (Lit.int .i64 m3).wf = true) (hw4 : (Lit.int .i64 m4).wf = true) :
    Calls Tryd.prog 15 #[.map (some B)] w fun e w' => e = .returned (.map (some w.heap.size)) ∧ w'.ownsMap Tryd.prog 9 (plainElem (H := Unit) Tryd.prog 3) w.heap.size 4 (cntD m1 m2 m3 m4) ∧ Below w.heap.size w w' := by
  have hmm := run_mm
  have hbl := hown.lt
  have e1 : (w.alloc (.map #[] 0)).heap.size = w.heap.size + 1 := by simp
  go_enter Tryd.func15, Tryd.ntmps15
  go_wp2_with (first
    | (at_len; refine wpList_len_own _ rfl _ 49 rfl 9 58 Tryd.underlying49 _ B 4 _ rfl hown ?_)
    | (at_range; refine wpList_range_own _ rfl _ 49 rfl 9 58 law Tryd.underlying49 _ B 4 _ rfl (hown.alloc _) ?_; intro w0 hrg0 hg0 hs0)
    | go_in)
  go_frame
  rw [e1] at hrg0 hs0 ⊢
  go_loopw [4] (fun _ wr => ∃ (left : Lit → Bool) (cnt : Nat) (Dout : DataW Unit), wr.ranges Tryd.prog 9 (ptrElem (H := Unit) b) B (w.heap.size + 1) 4 kindD left cnt ∧ cnt ≤ 4 ∧
      wr.ownsMap Tryd.prog 9 (plainElem (H := Unit) Tryd.prog 3) w.heap.size (4 - cnt) Dout ∧ Agree Dout (cntD m1 m2 m3 m4) left ∧ Below w.heap.size w wr)
    (fun _ wr => wr.rangeLeft B (w.heap.size + 1))
  case atStart =>
    exact ⟨_, _, .map [], hrg0, Nat.le_refl _, ((World.ownsMap_made _ _ _ _).kept hg0 (by simp)).mono (Nat.zero_le _), has_same m1 m2 m3 m4 ▸ agree_start (cntD m1 m2 m3 m4), ((Below.refl _ _).alloc (Nat.le_refl _) _).grown hg0 (by simp) (fun j hj => by cases hj)⟩
  case round =>
    obtain ⟨left, cnt, Dout, hrg, hcs, hout, hA, hnx⟩ := hrel
    go_wp2_with (first
      | (at_next; refine wpList_next_ranges _ rfl _ rfl 9 law (ptrElem (H := Unit) b) Value.string (fun off : Nat => Value.pointer (some ⟨b, off, none⟩)) key_inv (ptr_inv b) B (w.heap.size + 1) 4 _ _ _ rfl hrg ?_ ?_)
      | go_in)
    · intro hc0 hl0
      have HX : Hid _ := And.intro hc0 (And.intro hl0 (And.intro hA (And.intro hout hnx)))
      clear hc0 hl0 hA hout hnx
      go_wp2
      go_ret
      obtain ⟨hc0, hl0, hA, hout, hnx⟩ := HX.out
      subst hc0
      have e := agree_end hA hl0 (hout.canon law) (cnt_canon m1 m2 m3 m4)
      subst e
      exact ⟨rfl, by simpa using hout, hnx⟩
    · intro x off kl d ps w1 cnt1 hkey hlx hR hat hrg1 hlt hg1 hs1 hen
      rw [ptrElem_mk] at hR
      cases hR
      have hout1 := hout.kept hg1 (by simp)
      obtain ⟨hoff, hat2⟩ := at_same m1 m2 m3 m4 kl off hat
      have hkl := key_lit hkey
      have hnx1 := hnx.grown hg1 hnx.size (fun j hj => by cases hj; exact Nat.le_succ _)
      have hbw : b < w.heap.size := World.block_lt_of_cell? _ _ c1
      have hcell : w1.cell? ⟨b, off, none⟩ = some (.int .i64 (valAt m1 m2 m3 m4 off)) := by
        rw [hnx1.cell (p := ⟨b, off, none⟩) hbw]
        rcases hoff with rfl | rfl | rfl | rfl <;> simp [valAt, c1, c2, c3, c4]
      have hwf : (Lit.int .i64 (valAt m1 m2 m3 m4 off)).wf = true := by
        rcases hoff with rfl | rfl | rfl | rfl <;> simp [valAt, hw1, hw2, hw3, hw4]
      generalize valAt m1 m2 m3 m4 off = cv at *
      have HW : Hid _ := hwf
      have HA : Hid _ := And.intro hA (And.intro hat2 (And.intro hkl (And.intro hkey (And.intro hrg hrg1))))
      have HG : Hid _ := And.intro hg1 (And.intro hnx (And.intro hnx1 hout.isMap))
      clear hwf hA hat2 hkl hkey hrg hrg1 hg1 hnx hnx1 hat hlx hout hoff c1 c2 c3 c4 hw1 hw2 hw3 hw4
      go_wp2_with (first
        | (at_mapUpdate; refine wpList_mapUpdate_own _ rfl _ _ _ 47 rfl 9 3 law Tryd.underlying47 _ w.heap.size _ _ rfl hout1 (by unfold maxLen; omega) _ _ _ rfl rfl HA.out.2.2.2.1 _ [] (plainElem_int Tryd.underlying3 HW.out) ?_; intro w2 hout2 hg2; go_frame)
        | go_in)
      obtain ⟨hA, hat2, hkl, hkey, hrg, hrg1⟩ := HA.out
      obtain ⟨hg1, hnx, hnx1, hmap⟩ := HG.out
      have hrg2 := hrg1.kept hg2 (fun e => by have := Option.some.inj e; omega) (fun e => by have := Option.some.inj e; omega)
      have hkk : WideAt.IsKeyLit kl := by rw [hkl.1]; trivial
      go_roundw
      case rel =>
        exact ⟨_, cnt1, _, hrg2, by omega, hout2.mono (by omega), agree_step hA hmap hkk hat2, hnx1.grown hg2 hnx1.size (fun j hj => by cases hj; exact Nat.le_refl _)⟩
      case measure => rw [hrg2.left_eq, hrg.left_eq]; exact hlt
end Go.Proofs.Qxb6614550aDoor
