/-
  THE WALKS: Fetch.appendBody, ZZFetchAppendBody.
-/
import Derived.Test.Qxb6605721aWa
import Derived.Deep.RegionHeld3
import Derived.Deep.RegionWith
import Derived.Deep.AppendLies
namespace Go.Proofs.Qxb6605721a
open Go.RowKit
open Extern.Stop (cell)

theorem grown_trans {w w1 w2 : World} {r r1 : Option Nat} (h : w.grownBy w1 r) (h1 : w1.grownBy w2 r1) (hr : r1 = r ∨ ∃ k, r1 = some k ∧ w.heap.size ≤ k) : w.grownBy w2 r :=
  ⟨h1.os.trans h.os, h1.tape.trans h.tape, h1.output.trans h.output, Nat.le_trans h.size h1.size, fun k hk hne => by
    rw [h1.block k (Nat.lt_of_lt_of_le hk h.size) (fun e => by
      rcases hr with rfl | ⟨j, rfl, hj⟩
      · exact hne e
      · cases e; omega)]
    exact h.block k hk hne⟩
theorem grown_alloc {w w1 : World} {r : Option Nat} (h : w.grownBy w1 r) (o : Obj) : w.grownBy (w1.alloc o) r :=
  ⟨h.os, h.tape, h.output, Nat.le_trans h.size (by simp), fun k hk hne => by
    rw [Below.heap_alloc _ _ _ (Nat.lt_of_lt_of_le hk h.size)]; exact h.block k hk hne⟩
theorem grown_drew {w w1 : World} {r : Option Nat} (h : w.grownBy w1 r) : w.grownBy w1.drew r := ⟨h.os, h.tape, h.output, h.size, h.block⟩
theorem grown_refl (w : World) (r : Option Nat) : w.grownBy w r := ⟨rfl, rfl, rfl, Nat.le_refl _, fun _ _ _ => rfl⟩

/-- An own slice that is not empty. -/
theorem own_slice {w : World} {base m : Nat} {v : Value} {xs : List Value} (h : w.ownsRow base 5 1 v m xs) (h0 : 0 < m) : ∃ g c, v = .slice (some ⟨g, 0, none⟩) m c ∧ base ≤ g := by
  rcases h.2 with ⟨_, rfl⟩ | ⟨g, cap, cur, e, hb, _⟩
  · omega
  · exact ⟨g, cap, e, hb⟩

theorem range_far {w w' : World} {r : Option Nat} {b o : Nat} {cs : List Value} (h : w.rangeAt b o cs) (hg : w.grownBy w' r) (hb : b < w.heap.size) (hne : some b ≠ r) : w'.rangeAt b o cs := fun j v hv => by
  rw [World.cell?_of_block (w := w) (hg.block b hb hne)]; exact h j v hv
theorem cell_far {w w' : World} {r : Option Nat} {b o : Nat} {v : Value} (h : w.cell? ⟨b, o, none⟩ = some v) (hg : w.grownBy w' r) (hb : b < w.heap.size) (hne : some b ≠ r) : w'.cell? ⟨b, o, none⟩ = some v := by
  rw [World.cell?_of_block (w := w) (hg.block b hb hne)]; exact h
theorem news_range {w : World} {b o : Nat} {cs : List Value} (h : w.rangeAt b o cs) : ∀ j u, cs[j]? = some u → w.cell? ((⟨b, o, none⟩ : Addr).add j) = some u := fun j u hu => by
  rw [Addr.add_mid]; exact h j u hu
theorem bv_one (xs : List UInt8) : ∀ u ∈ bv xs, u.oneCell' = true := fun u hu => by
  obtain ⟨x, _, rfl⟩ := List.mem_map.1 hu; rfl

theorem own_below {w w' : World} {base n : Nat} {v : Value} {xs : List Value} (h : w.ownsRow base 5 1 v n xs) (hb : Below w.heap.size w w') : w'.ownsRow base 5 1 v n xs := by
  rcases h with ⟨h1, h | ⟨g, cap, cur, e, h2, hg, h3⟩⟩
  · exact ⟨h1, .inl h⟩
  · exact ⟨h1, .inr ⟨g, cap, cur, e, h2, (hb.block g (lt_of_block hg)).trans hg, h3⟩⟩
theorem own_far {w w' : World} {base n : Nat} {v : Value} {xs : List Value} {r : Option Nat} (h : w.ownsRow base 5 1 v n xs) (hg : w.grownBy w' r) (hne : ∀ k, v.ownBlock = some k → some k ≠ r) : w'.ownsRow base 5 1 v n xs := by
  rcases h with ⟨h1, h | ⟨g, cap, cur, rfl, h2, h4, h3⟩⟩
  · exact ⟨h1, .inl h⟩
  · exact ⟨h1, .inr ⟨g, cap, cur, rfl, h2, (hg.block g (lt_of_block h4) (hne g rfl)).trans h4, h3⟩⟩
theorem own_nil {w : World} {base n c : Nat} {po : Option Addr} {xs : List Value} (h : w.ownsRow base 5 1 (.slice po n c) n xs) (hp : po = none) : n = 0 := by
  rcases h.2 with ⟨_, h⟩ | ⟨g, cap, cur, e, _⟩
  · exact h
  · subst hp; cases e

/-- Behind appendBody. -/
def AppPost (w : World) (po : Option Addr) (n c base : Nat) (zs : List UInt8) (e : Ending) (w' : World) : Prop :=
  ∃ g c', e = .returned (.tuple #[.slice (some ⟨g, 0, none⟩) (n + 41) c', .nilIface]) ∧ w'.ownsRow base 5 1 (.slice (some ⟨g, 0, none⟩) (n + 41) c') (n + 41) (bv zs) ∧ w.grownBy w' (Value.ownBlock (.slice po n c)) ∧ (Value.ownBlock (.slice po n c) = some g ∨ w.heap.size ≤ g)

set_option linter.unusedSimpArgs false in
set_option maxHeartbeats 1000000 in
set_option maxRecDepth 100000 in
theorem app_any (po : Option Addr) (n c base : Nat) (h : UInt8) (A T xs : List UInt8) (w : World) (hA : A.length = 20) (hT : T.length = 20) (hn : n ≤ 1048576) (hbase : base ≤ w.heap.size)
    (hown : w.ownsRow base 5 1 (.slice po n c) n (bv xs)) :
    Calls Try.prog 11 #[.agg (cell h :: (bv A ++ bv T)).toArray, .slice po n c] w fun e w' => AppPost w po n c base (xs ++ (h :: (A ++ T))) e w' := by
  have hbx : (w.alloc (.cells (cell h :: (bv A ++ bv T)).toArray 28)).heap[w.heap.size]? = some (.cells (cell h :: (bv A ++ bv T)).toArray 28) := heap_alloc_new w _
  have r0 : (w.alloc (.cells (cell h :: (bv A ++ bv T)).toArray 28)).cell? ⟨w.heap.size, 0, none⟩ = some (.int .u8 (h.toNat : Int)) := by
    rw [cell_of_row _ _ _ _ _ _ hbx]; rfl
  have r1 : (w.alloc (.cells (cell h :: (bv A ++ bv T)).toArray 28)).rangeAt w.heap.size 1 (bv A) := fun j v hv => by
    rw [cell_of_row _ _ _ _ _ _ hbx, ← hv]
    have hj : j < (bv A).length := (List.getElem?_eq_some_iff.1 hv).1
    simp only [bv, List.length_map] at hj
    simp [bv, Nat.add_comm 1 j, List.getElem?_append_left, hj]
  have r2 : (w.alloc (.cells (cell h :: (bv A ++ bv T)).toArray 28)).rangeAt w.heap.size 21 (bv T) := fun j v hv => by
    rw [cell_of_row _ _ _ _ _ _ hbx, ← hv]
    rw [show 21 + j = 20 + j + 1 from by omega]
    simp [bv, List.getElem?_append_right, hA]
  obtain ⟨i0, hi, hz0, hz1, hz2⟩ := info_parts Try.info5
  have HO : Hid _ := And.intro (hown.alloc (.cells (cell h :: (bv A ++ bv T)).toArray 28)) (And.intro hA (And.intro hT (And.intro hi (And.intro hz0 (And.intro hz1 (And.intro hz2 (And.intro hbx ((grown_alloc (grown_refl w (Value.ownBlock (.slice po n c))) (.cells (cell h :: (bv A ++ bv T)).toArray 28))))))))))
  have hown0 := hown
  clear hown hA hT hi hz0 hz1 hz2 hbx
  have HN : Hid (Value.ownBlock (.slice po n c) ≠ some w.heap.size) := fun e => by have := (hown0.lt _ e).2; omega
  clear hown0
  go_enter Try.func11, Try.ntmps11
  go_wp2_with fail
  refine wp_region_noPanic ?_
  refine wp_region_held_drew (S := fun w' => w'.cell? ⟨w.heap.size, 0, none⟩ = some (.int .u8 (h.toNat : Int)) ∧ w'.rangeAt w.heap.size 1 (bv A) ∧ w'.rangeAt w.heap.size 21 (bv T)) (by kernel_rfl) ⟨r0, (World.rangeAt_drew _ _ _ _).2 r1, (World.rangeAt_drew _ _ _ _).2 r2⟩ (fun hHeld => ?_)
  refine wpAnyH_take (i := 0) (oi := _) (v := ?_) rfl (by kernel_rfl) (by kernel_rfl) (by kernel_rfl) (fun _ _ _ h => h) (Or.inl ⟨by rfl, ?_⟩) hHeld ?_
  rotate_left
  · intro w hSw; have q0 := hSw.1; go_simp; try (with_reducible rfl)
  try simp only [Act.put, List.setIfInBounds_toArray, List.set_cons_zero, List.set_cons_succ]
  refine wpAnyH_take (i := 1) (oi := _) (v := ?_) rfl (by kernel_rfl) (by kernel_rfl) (by kernel_rfl) (fun _ _ _ h => h) (Or.inl ⟨by rfl, ?_⟩) hHeld ?_
  rotate_left
  · intro w hSw; have q0 := hSw.1; go_simp; try (with_reducible rfl)
  try simp only [Act.put, List.setIfInBounds_toArray, List.set_cons_zero, List.set_cons_succ]
  refine wpAnyH_take (i := 2) (oi := _) (v := ?_) rfl (by kernel_rfl) (by kernel_rfl) (by kernel_rfl) (fun _ _ _ h => h) (Or.inl ⟨by rfl, ?_⟩) hHeld ?_
  rotate_left
  · intro w hSw; have q0 := hSw.1; go_simp; try (with_reducible rfl)
  try simp only [Act.put, List.setIfInBounds_toArray, List.set_cons_zero, List.set_cons_succ]
  refine wpAnyH_take (i := 5) (oi := _) (v := ?_) rfl (by kernel_rfl) (by kernel_rfl) (by kernel_rfl) (fun _ _ _ h => h) (Or.inl ⟨by rfl, ?_⟩) hHeld ?_
  rotate_left
  · intro w hSw; have q0 := hSw.1; go_simp; try (with_reducible rfl)
  try simp only [Act.put, List.setIfInBounds_toArray, List.set_cons_zero, List.set_cons_succ]
  refine wpAnyH_take (i := 6) (oi := _) (v := ?_) rfl (by kernel_rfl) (by kernel_rfl) (by kernel_rfl) (fun _ _ _ h => h) (Or.inl ⟨by rfl, ?_⟩) hHeld ?_
  rotate_left
  · intro w hSw; have q0 := hSw.1; go_simp; try (with_reducible rfl)
  try simp only [Act.put, List.setIfInBounds_toArray, List.set_cons_zero, List.set_cons_succ]
  refine wpAnyH_take (i := 8) (oi := _) (v := ?_) rfl (by kernel_rfl) (by kernel_rfl) (by kernel_rfl) (fun _ _ _ h => h) (Or.inl ⟨by rfl, ?_⟩) hHeld ?_
  rotate_left
  · intro w hSw; have q0 := hSw.1; go_simp; try (with_reducible rfl)
  try simp only [Act.put, List.setIfInBounds_toArray, List.set_cons_zero, List.set_cons_succ]
  refine wpAnyH_take (i := 9) (oi := _) (v := ?_) rfl (by kernel_rfl) (by kernel_rfl) (by kernel_rfl) (fun _ _ _ h => h) (Or.inl ⟨by rfl, ?_⟩) hHeld ?_
  rotate_left
  · intro w hSw; have q0 := hSw.1; go_simp; try (with_reducible rfl)
  try simp only [Act.put, List.setIfInBounds_toArray, List.set_cons_zero, List.set_cons_succ]
  refine wpAnyH_ready (rs := [3]) (by kernel_rfl) (by simp) ?_
  refine AllReadyH.cons (o := _) rfl (fun K hK => ?_) AllReadyH.nil
  go_simp
  obtain ⟨hown, hA, hT, hi, hz0, hz1, hz2, hbx, hgr⟩ := HO.out
  have hlt := hown.lt
  have hnb : some w.heap.size ≠ Value.ownBlock (.slice po n c) := fun e => HN.out e.symm
  clear hlt
  have s0 : ((w.alloc (.cells (cell h :: (bv A ++ bv T)).toArray 28)).alloc (.cells #[.int .u8 (h.toNat : Int)] 5)).drew.cell? ⟨w.heap.size, 0, none⟩ = some (.int .u8 (h.toNat : Int)) := by
    exact (World.rangeAt_alloc (cs := [.int .u8 (h.toNat : Int)]) (o := 0) (fun j v hv => by cases j with | zero => cases hv; exact r0 | succ j => cases hv) _) 0 _ rfl
  have s1 : ((w.alloc (.cells (cell h :: (bv A ++ bv T)).toArray 28)).alloc (.cells #[.int .u8 (h.toNat : Int)] 5)).drew.rangeAt w.heap.size 1 (bv A) := (World.rangeAt_drew _ _ _ _).2 (World.rangeAt_alloc r1 _)
  have s2 : ((w.alloc (.cells (cell h :: (bv A ++ bv T)).toArray 28)).alloc (.cells #[.int .u8 (h.toNat : Int)] 5)).drew.rangeAt w.heap.size 21 (bv T) := (World.rangeAt_drew _ _ _ _).2 (World.rangeAt_alloc r2 _)
  have s3 : ((w.alloc (.cells (cell h :: (bv A ++ bv T)).toArray 28)).alloc (.cells #[.int .u8 (h.toNat : Int)] 5)).drew.rangeAt (w.heap.size + 1) 0 (bv [h]) := fun j v hv => by
    have hb2 : ((w.alloc (.cells (cell h :: (bv A ++ bv T)).toArray 28)).alloc (.cells #[.int .u8 (h.toNat : Int)] 5)).heap[w.heap.size + 1]? = some (.cells #[.int .u8 (h.toNat : Int)] 5) := by
      have := heap_alloc_new (w.alloc (.cells (cell h :: (bv A ++ bv T)).toArray 28)) (.cells #[.int .u8 (h.toNat : Int)] 5)
      simpa using this
    have hb3 : ((w.alloc (.cells (cell h :: (bv A ++ bv T)).toArray 28)).alloc (.cells #[.int .u8 (h.toNat : Int)] 5)).drew.heap[w.heap.size + 1]? = some (.cells #[.int .u8 (h.toNat : Int)] 5) := hb2
    rw [cell_of_row _ _ _ _ _ _ hb3, Nat.zero_add]; simpa [cell] using hv
  have sz : ((w.alloc (.cells (cell h :: (bv A ++ bv T)).toArray 28)).alloc (.cells #[.int .u8 (h.toNat : Int)] 5)).drew.heap.size = w.heap.size + 1 + 1 := by simp [World.drew]
  have sg : w.grownBy ((w.alloc (.cells (cell h :: (bv A ++ bv T)).toArray 28)).alloc (.cells #[.int .u8 (h.toNat : Int)] 5)).drew (Value.ownBlock (.slice po n c)) := grown_drew (grown_alloc hgr _)
  have so := (hown.alloc (.cells #[.int .u8 (h.toNat : Int)] 5)).drew
  refine hK.out _ _ ⟨s0, s1, s2⟩ (fun hHeld => ?_)
  clear hK K
  generalize ((w.alloc (.cells (cell h :: (bv A ++ bv T)).toArray 28)).alloc (.cells #[.int .u8 (h.toNat : Int)] 5)).drew = W1 at *
  refine wpAnyH_ready (rs := [4]) (by kernel_rfl) (by simp) ?_
  refine AllReadyH.cons (o := _) rfl (fun K hK => ?_) AllReadyH.nil
  refine step_append_lies W1 rfl (.tmp 6) (.tmp 9) 22 rfl base 5 i0 (.int .u8 0) 1 1 Try.underlying22 hi hz0 hz1 hz2 rfl (by decide) (.slice po n c) n _ rfl so ⟨w.heap.size + 1, 0, none⟩ 1 1 (bv [h]) rfl rfl (news_range s3) (bv_one _) (by decide) (by unfold maxLen; omega) (by omega) (by omega) (w.heap.size + 1 + 1) sz ?_
  intro b1 c1 w1 o1 g1 l1 z1
  have n1 : some w.heap.size ≠ Value.ownBlock (.slice (some ⟨b1, 0, none⟩) (n + 1) c1) := fun e => by
    have e' : w.heap.size = b1 := by simpa [Value.ownBlock] using e
    rcases l1 with l | l
    · exact hnb (by rw [l, e'])
    · omega
  have L1 : Value.ownBlock (.slice (some ⟨b1, 0, none⟩) (n + 1) c1) = Value.ownBlock (.slice po n c) ∨ ∃ k, Value.ownBlock (.slice (some ⟨b1, 0, none⟩) (n + 1) c1) = some k ∧ w.heap.size ≤ k := by
    rcases l1 with l | l
    · exact .inl (by rw [l]; rfl)
    · exact .inr ⟨b1, rfl, by omega⟩
  have G1 := grown_trans sg g1 (.inl rfl)
  have t0 := cell_far s0 g1 (by omega) hnb
  have t1 := range_far s1 g1 (by omega) hnb
  have t2 := range_far s2 g1 (by omega) hnb
  have y1 := g1.size
  refine hK.out _ _ ⟨t0, t1, t2⟩ (fun hHeld => ?_)
  clear hK K
  try simp only [Act.put, List.setIfInBounds_toArray, List.set_cons_zero, List.set_cons_succ]
  refine wpAnyH_ready (rs := [7]) (by kernel_rfl) (by simp) ?_
  refine AllReadyH.cons (o := _) rfl (fun K hK => ?_) AllReadyH.nil
  refine step_append_lies w1 rfl (.tmp 10) (.tmp 12) 22 rfl base 5 i0 (.int .u8 0) 1 1 Try.underlying22 hi hz0 hz1 hz2 rfl (by decide) (.slice (some ⟨b1, 0, none⟩) (n + 1) c1) (n + 1) _ rfl o1 ⟨w.heap.size, 1, none⟩ 20 20 (bv A) rfl (by rw [List.length_map, hA]) (news_range t1) (bv_one _) (by decide) (by unfold maxLen; omega) (by omega) (by omega) w1.heap.size rfl ?_
  intro b2 c2 w2 o2 g2 l2 z2
  have n2 : some w.heap.size ≠ Value.ownBlock (.slice (some ⟨b2, 0, none⟩) (n + 1 + 20) c2) := fun e => by
    have e' : w.heap.size = b2 := by simpa [Value.ownBlock] using e
    rcases l2 with l | l
    · exact n1 (by rw [l, e'])
    · omega
  have L2 : Value.ownBlock (.slice (some ⟨b2, 0, none⟩) (n + 1 + 20) c2) = Value.ownBlock (.slice po n c) ∨ ∃ k, Value.ownBlock (.slice (some ⟨b2, 0, none⟩) (n + 1 + 20) c2) = some k ∧ w.heap.size ≤ k := by
    rcases l2 with l | l
    · have e : Value.ownBlock (.slice (some ⟨b2, 0, none⟩) (n + 1 + 20) c2) = Value.ownBlock (.slice (some ⟨b1, 0, none⟩) (n + 1) c1) := by rw [l]; rfl
      rw [e]; exact L1
    · exact .inr ⟨b2, rfl, by omega⟩
  have G2 := grown_trans G1 g2 L1
  have u0 := cell_far t0 g2 (by omega) n1
  have u1 := range_far t1 g2 (by omega) n1
  have u2 := range_far t2 g2 (by omega) n1
  have y2 := g2.size
  refine hK.out _ _ ⟨u0, u1, u2⟩ (fun hHeld => ?_)
  clear hK K
  try simp only [Act.put, List.setIfInBounds_toArray, List.set_cons_zero, List.set_cons_succ]
  refine wpAnyH_ready (rs := [10]) (by kernel_rfl) (by simp) ?_
  refine AllReadyH.cons (o := _) rfl (fun K hK => ?_) AllReadyH.nil
  refine step_append_lies w2 rfl (.tmp 13) (.tmp 15) 22 rfl base 5 i0 (.int .u8 0) 1 1 Try.underlying22 hi hz0 hz1 hz2 rfl (by decide) (.slice (some ⟨b2, 0, none⟩) (n + 1 + 20) c2) (n + 1 + 20) _ rfl o2 ⟨w.heap.size, 21, none⟩ 20 20 (bv T) rfl (by rw [List.length_map, hT]) (news_range u2) (bv_one _) (by decide) (by unfold maxLen; omega) (by omega) (by omega) w2.heap.size rfl ?_
  intro b3 c3 w3 o3 g3 l3 z3
  have G3 := grown_trans G2 g3 L2
  have L3 : Value.ownBlock (.slice po n c) = some b3 ∨ w.heap.size ≤ b3 := by
    rcases l3 with l | l
    · rcases L2 with L | ⟨k, L, hk⟩
      · exact .inl (L.symm.trans l)
      · rw [L] at l; cases l; exact .inr hk
    · exact .inr (by omega)
  have v0 := cell_far u0 g3 (by omega) n2
  have v1 := range_far u1 g3 (by omega) n2
  have v2 := range_far u2 g3 (by omega) n2
  refine hK.out _ _ ⟨v0, v1, v2⟩ (fun hHeld => ?_)
  clear hK K
  try simp only [Act.put, List.setIfInBounds_toArray, List.set_cons_zero, List.set_cons_succ]
  refine wpAnyH_ready (rs := [11]) (by kernel_rfl) (by simp) ?_
  refine AllReadyH.cons (o := _) rfl (fun K hK => ?_) AllReadyH.nil
  go_simp
  refine hK.out _ _ ⟨v0, v1, v2⟩ (fun hHeld => ?_)
  clear hK K
  try simp only [Act.put, List.setIfInBounds_toArray, List.set_cons_zero, List.set_cons_succ]
  refine wpAnyH_ready (rs := [12]) (by kernel_rfl) (by simp) ?_
  refine AllReadyH.cons (o := _) rfl (fun K hK => ?_) AllReadyH.nil
  go_simp
  refine hK.out _ _ ⟨v0, v1, v2⟩ (fun hHeld => ?_)
  clear hK K
  try simp only [Act.put, List.setIfInBounds_toArray, List.set_cons_zero, List.set_cons_succ]
  refine wpAnyH_done (by kernel_rfl) ?_ _
  refine NoPanic.normal ?_
  have HZ : Hid _ := And.intro o3 (And.intro G3 L3)
  clear L3 o1 o2 o3 g1 g2 g3 G1 G2 G3 so sg hown hgr
  go_wp2
  go_ret2
  obtain ⟨o3, G3, L3⟩ := HZ.out
  refine ⟨b3, c3, rfl, ?_, G3, L3⟩
  have e : bv xs ++ bv [h] ++ bv A ++ bv T = bv (xs ++ (h :: (A ++ T))) := by simp [bv]
  rw [e] at o3
  exact o3
end Go.Proofs.Qxb6605721a
