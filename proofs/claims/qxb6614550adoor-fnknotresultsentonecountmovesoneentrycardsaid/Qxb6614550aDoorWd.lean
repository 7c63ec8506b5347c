import Derived.Test.Qxb6614550aDoorWc
import Derived.Deep.RegionHeld3
namespace Go.Proofs.Qxb6614550aDoor
open Go.RowKit Go.Maps Go.WideMaps

/-- Behind Sent. -/
def SentPost (w : World) (m1 m2 m3 m4 : Int) (e : Ending) (w' : World) : Prop :=
  ∃ N, e = .returned (.slice (some ⟨N, 0, none⟩) 4 4) ∧ SentAt w' N m1 m2 m3 m4 ∧ Below w.heap.size w w'

theorem SentAt.below {w w' : World} {N : Nat} {m1 m2 m3 m4 : Int} (h : SentAt w N m1 m2 m3 m4) (hb : Below w.heap.size w w') : SentAt w' N m1 m2 m3 m4 :=
  ⟨Nat.lt_of_lt_of_le h.1 hb.size, fun j hj => ⟨(hb.cell (p := ⟨N, _, none⟩) h.1).trans (h.2 j hj).1, (hb.cell (p := ⟨N, _, none⟩) h.1).trans (h.2 j hj).2⟩⟩

theorem box6 (w : World) (x0 x1 x2 x3 x4 x5 : Value) (t : TypeId) : ∀ j v, (#[x0, x1, x2, x3, x4, x5] : Array Value)[j]? = some v → (w.alloc (.cells #[x0, x1, x2, x3, x4, x5] t)).cell? ⟨w.heap.size, j, none⟩ = some v := by
  intro j v h
  rw [cell_of_row _ _ _ _ _ _ (heap_alloc_new w _)]; exact h

set_option linter.unusedSimpArgs false in
set_option maxHeartbeats 1000000 in
set_option maxRecDepth 100000 in
theorem sent_any (ik : Bool) (m1 m2 m3 m4 at' : Int) (g o c : Nat) (w : World) (hg : w.cell? ⟨0, 0, none⟩ = some (.slice (some ⟨g, o, none⟩) 4 c)) (hk : KindsAt w g o)
    (hw1 : (Lit.int .i64 m1).wf = true) (hw2 : (Lit.int .i64 m2).wf = true) (hw3 : (Lit.int .i64 m3).wf = true) (hw4 : (Lit.int .i64 m4).wf = true) :
    Calls Tryd.prog 6 #[.agg #[.bool ik, .int .i64 m1, .int .i64 m2, .int .i64 m3, .int .i64 m4, .int .i64 at']] w fun e w' => SentPost w m1 m2 m3 m4 e w' := by
  have hlg : 0 < w.heap.size := World.block_lt_of_cell? _ _ hg
  have hbx := box6 w (.bool ik) (.int .i64 m1) (.int .i64 m2) (.int .i64 m3) (.int .i64 m4) (.int .i64 at') 23
  have hb1 : Below w.heap.size w ((w.alloc (.cells #[.bool ik, .int .i64 m1, .int .i64 m2, .int .i64 m3, .int .i64 m4, .int .i64 at'] 23)).drew) := ((Below.refl _ _).alloc (Nat.le_refl _) _).drew
  have hs1 : ((w.alloc (.cells #[.bool ik, .int .i64 m1, .int .i64 m2, .int .i64 m3, .int .i64 m4, .int .i64 at'] 23)).drew).heap.size = w.heap.size + 1 := by simp [World.drew]
  have HB : Hid _ := And.intro hbx (And.intro hb1 (And.intro hs1 (And.intro hk (And.intro hg (And.intro hw1 (And.intro hw2 (And.intro hw3 hw4)))))))
  clear hbx hb1 hs1 hk hw1 hw2 hw3 hw4
  go_enter Tryd.func6, Tryd.ntmps6
  go_wp2
  refine wp_region_noPanic ?_
  refine wp_region_held_drew (S := fun w' => w'.cell? ⟨0, 0, none⟩ = some (.slice (some ⟨g, o, none⟩) 4 c)) (by kernel_rfl) ?_ (fun hHeld => ?_)
  · exact (HB.out.2.1.cell (p := ⟨0, 0, none⟩) hlg).trans hg
  refine wpAnyH_take (i := 0) (oi := _) (v := ?_) rfl (by kernel_rfl) (by kernel_rfl) (by kernel_rfl) (fun _ _ _ h => h) (Or.inl ⟨by rfl, ?_⟩) hHeld ?_
  rotate_left
  · intro w hSw; go_simp; try (with_reducible rfl)
  try simp only [Act.put, List.setIfInBounds_toArray, List.set_cons_zero, List.set_cons_succ]
  refine wpAnyH_ready (rs := [1]) (by kernel_rfl) (by simp) ?_
  refine AllReadyH.cons (o := _) rfl (fun K hK => ?_) AllReadyH.nil
  go_simp
  refine (byKind_any w.heap.size _).mono ?_
  rintro e w2 ⟨rfl, hown2, hgr2⟩
  obtain ⟨hbx, hb1, hs1, hk, hg0, hw1, hw2, hw3, hw4⟩ := HB.out
  rw [hs1] at hown2 hgr2
  have hb2 : Below (w.heap.size + 1) ((w.alloc (.cells #[.bool ik, .int .i64 m1, .int .i64 m2, .int .i64 m3, .int .i64 m4, .int .i64 at'] 23)).drew) w2 :=
    (Below.refl _ _).grown hgr2 (by rw [hs1]; exact Nat.le_refl _) (fun k hk => by cases hk; exact Nat.le_refl _)
  have q1 : w2.cell? ⟨w.heap.size, 1, none⟩ = some (.int .i64 m1) := (hb2.cell (p := ⟨w.heap.size, 1, none⟩) (Nat.lt_succ_self _)).trans (hbx 1 _ rfl)
  have q2 : w2.cell? ⟨w.heap.size, 2, none⟩ = some (.int .i64 m2) := (hb2.cell (p := ⟨w.heap.size, 2, none⟩) (Nat.lt_succ_self _)).trans (hbx 2 _ rfl)
  have q3 : w2.cell? ⟨w.heap.size, 3, none⟩ = some (.int .i64 m3) := (hb2.cell (p := ⟨w.heap.size, 3, none⟩) (Nat.lt_succ_self _)).trans (hbx 3 _ rfl)
  have q4 : w2.cell? ⟨w.heap.size, 4, none⟩ = some (.int .i64 m4) := (hb2.cell (p := ⟨w.heap.size, 4, none⟩) (Nat.lt_succ_self _)).trans (hbx 4 _ rfl)
  have hbw2 : Below w.heap.size w w2 := hb1.trans (hb2.mono (Nat.le_succ _))
  have hg2 : w2.cell? ⟨0, 0, none⟩ = some (.slice (some ⟨g, o, none⟩) 4 c) := (hbw2.cell (p := ⟨0, 0, none⟩) hlg).trans hg0
  have HC : Hid _ := And.intro hown2 (And.intro q1 (And.intro q2 (And.intro q3 (And.intro q4 (And.intro hbw2 (And.intro hk (And.intro hw1 (And.intro hw2 (And.intro hw3 hw4)))))))))
  clear hown2 hgr2 hb2 q1 q2 q3 q4 hbw2 hbx hb1 hs1 hk hg0 hw1 hw2 hw3 hw4 HB
  go_wp2_with fail
  refine hK.out _ _ hg2 (fun hHeld => ?_)
  clear hK K
  refine wpAnyH_ready (rs := [2]) (by kernel_rfl) (by simp) ?_
  refine AllReadyH.cons (o := _) rfl (fun K hK => ?_) AllReadyH.nil
  go_simp
  obtain ⟨hown2, q1, q2, q3, q4, hbw2, hk, hw1, hw2, hw3, hw4⟩ := HC.out
  refine (fieldCounts_any w.heap.size (w.heap.size + 1) m1 m2 m3 m4 w2 hown2 q1 q2 q3 q4 hw1 hw2 hw3 hw4).mono ?_
  rintro e w3 ⟨rfl, hown3, hb3⟩
  have hbw3 : Below w.heap.size w w3 := hbw2.trans (hb3.mono hbw2.size)
  have hg3 : w3.cell? ⟨0, 0, none⟩ = some (.slice (some ⟨g, o, none⟩) 4 c) := (hbw3.cell (p := ⟨0, 0, none⟩) hlg).trans hg
  have HD : Hid _ := And.intro hown3 (And.intro hbw3 hk)
  clear hown2 q1 q2 q3 q4 hbw2 hk hw1 hw2 hw3 hw4 HC hown3 hbw3 hb3
  go_wp2_with fail
  refine hK.out _ _ hg3 (fun hHeld => ?_)
  clear hK K
  refine wpAnyH_ready (rs := [3]) (by kernel_rfl) (by simp) ?_
  refine AllReadyH.cons (o := _) rfl (fun K hK => ?_) AllReadyH.nil
  go_simp
  obtain ⟨hown3, hbw3, hk⟩ := HD.out
  refine (countKinds_any g o _ 4 c m1 m2 m3 m4 w3 hown3 (hk.below hbw3)).mono ?_
  rintro e w4 ⟨rfl, hs4, hb4⟩
  have hbw4 : Below w.heap.size w w4 := hbw3.trans (hb4.mono hbw3.size)
  have hg4 : w4.cell? ⟨0, 0, none⟩ = some (.slice (some ⟨g, o, none⟩) 4 c) := (hbw4.cell (p := ⟨0, 0, none⟩) hlg).trans hg
  have HE : Hid _ := And.intro hs4 hbw4
  clear hown3 hbw3 hk hs4 hb4 hbw4 HD
  go_wp2_with fail
  refine hK.out _ _ hg4 (fun hHeld => ?_)
  clear hK K
  refine wpAnyH_ready (rs := [4]) (by kernel_rfl) (by simp) ?_
  refine AllReadyH.cons (o := _) rfl (fun K hK => ?_) AllReadyH.nil
  go_simp
  refine hK.out _ _ hg4 (fun hHeld => ?_)
  clear hK K
  try simp only [Act.put, List.setIfInBounds_toArray, List.set_cons_zero, List.set_cons_succ]
  refine wpAnyH_done (by kernel_rfl) ?_ _
  refine NoPanic.normal ?_
  go_wp2
  go_ret
  exact ⟨w3.heap.size, rfl, HE.out.1, HE.out.2⟩
end Go.Proofs.Qxb6614550aDoor
