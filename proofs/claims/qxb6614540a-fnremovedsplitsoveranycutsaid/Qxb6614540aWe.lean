import Derived.Test.Qxb6614540aWd
import Derived.Deep.RegionHeld3
import Derived.Deep.RegionWith
namespace Go.Proofs.Qxb6614540a
open Go.RowKit

/-- The cells of a list of members. -/
def cellsOf (l : List (Int × ByteArray × Int)) : List Value := l.flatMap fun t => [.int .u64 t.1, .string t.2.1, .int .u8 t.2.2]
theorem cellsOf_snoc (l : List (Int × ByteArray × Int)) (a : Int) (s : ByteArray) (p : Int) : cellsOf (l ++ [(a, s, p)]) = cellsOf l ++ [.int .u64 a, .string s, .int .u8 p] := by
  simp [cellsOf, List.flatMap_append]
/-- Rows lo .. lo + k. -/
def seg (ID : Nat → Int) (Ad : Nat → ByteArray) (Pt : Nat → Int) (lo k : Nat) : List (Int × ByteArray × Int) := (List.range k).map fun j => (ID (lo + j), Ad (lo + j), Pt (lo + j))
theorem seg_succ (ID : Nat → Int) (Ad : Nat → ByteArray) (Pt : Nat → Int) (lo k : Nat) : seg ID Ad Pt lo (k + 1) = seg ID Ad Pt lo k ++ [(ID (lo + k), Ad (lo + k), Pt (lo + k))] := by
  simp [seg, List.range_succ]

/-- Below 'base' nothing has turned; nor has any block of type 31 (a membership's box). -/
def Keeps (base : Nat) (w w' : World) : Prop := Below base w w' ∧ ∀ (b : Nat) (cs : Array Value), w.heap[b]? = some (Obj.cells cs 31) → w'.heap[b]? = some (Obj.cells cs 31)
theorem Keeps.refl (base : Nat) (w : World) : Keeps base w w := ⟨Below.refl _ _, fun _ _ h => h⟩
theorem Keeps.trans {base : Nat} {a b c : World} (h : Keeps base a b) (k : Keeps base b c) : Keeps base a c := ⟨h.1.trans k.1, fun i cs e => k.2 i cs (h.2 i cs e)⟩
theorem Keeps.drew {base : Nat} {a b : World} (h : Keeps base a b) : Keeps base a b.drew := ⟨h.1.drew, h.2⟩
theorem Keeps.alloc {base : Nat} {a w : World} (h : Keeps base a w) (hB : base ≤ w.heap.size) (o : Obj) : Keeps base a (w.alloc o) :=
  ⟨h.1.alloc hB o, fun i cs e => by have := h.2 i cs e; rw [Below.heap_alloc _ _ _ (lt_of_block this)]; exact this⟩
theorem Keeps.setCell {base : Nat} {a w : World} (h : Keeps base a w) {p : Addr} (hp : base ≤ p.block) (hp' : a.heap.size ≤ p.block) (u : Value) : Keeps base a (w.setCell p u) :=
  ⟨h.1.setCell hp u, fun i cs e => by rw [heap_setCell_other _ _ _ _ (by have := lt_of_block e; omega)]; exact h.2 i cs e⟩
theorem Keeps.of_below {base : Nat} {w w' : World} (h : Below w.heap.size w w') (hB : base ≤ w.heap.size) : Keeps base w w' :=
  ⟨h.mono hB, fun i cs e => by rw [h.block i (lt_of_block e)]; exact e⟩
theorem Keeps.of_grown {base n : Nat} {w w' : World} {v : Value} {xs : List Value} (hg : w.grownBy w' v.ownBlock) (ho : w.ownsRow base 73 3 v n xs) (hB : base ≤ w.heap.size) : Keeps base w w' :=
  ⟨(Below.refl _ _).grown hg hB (fun k hk => (ho.lt k hk).1), fun i cs e => by rw [hg.block i (lt_of_block e) (fun h => own_ne_box ho (by decide) e h.symm)]; exact e⟩

theorem box3_set {w : World} {b : Nat} {c0 c1 c2 : Value} {t : TypeId} (h : w.heap[b]? = some (.cells #[c0, c1, c2] t)) (d0 d1 d2 : Value) :
    (((w.setCell ⟨b, 0, none⟩ d0).setCell ⟨b, 1, none⟩ d1).setCell ⟨b, 2, none⟩ d2).heap[b]? = some (.cells #[d0, d1, d2] t) := by
  have h1 := heap_setCell_same w b 0 _ t d0 h
  have h2 := heap_setCell_same _ b 1 _ t d1 h1
  have h3 := heap_setCell_same _ b 2 _ t d2 h2
  simpa using h3
theorem box3_far {w : World} {b b' : Nat} (h : b' ≠ b) (d0 d1 d2 : Value) :
    (((w.setCell ⟨b, 0, none⟩ d0).setCell ⟨b, 1, none⟩ d1).setCell ⟨b, 2, none⟩ d2).heap[b']? = w.heap[b']? := by
  rw [heap_setCell_other _ _ _ _ h, heap_setCell_other _ _ _ _ h, heap_setCell_other _ _ _ _ h]
theorem Keeps.set3 {base : Nat} {a w : World} (h : Keeps base a w) {b : Nat} (hp : base ≤ b) (hp' : a.heap.size ≤ b) (d0 d1 d2 : Value) :
    Keeps base a (((w.setCell ⟨b, 0, none⟩ d0).setCell ⟨b, 1, none⟩ d1).setCell ⟨b, 2, none⟩ d2) :=
  ((h.setCell (p := ⟨b, 0, none⟩) hp hp' d0).setCell (p := ⟨b, 1, none⟩) hp hp' d1).setCell (p := ⟨b, 2, none⟩) hp hp' d2
theorem own_set3 {w : World} {base : Nat} {v : Value} {n : Nat} {xs : List Value} (h : w.ownsRow base 73 3 v n xs) {b : Nat} (hne : v.ownBlock ≠ some b) (d0 d1 d2 : Value) :
    (((w.setCell ⟨b, 0, none⟩ d0).setCell ⟨b, 1, none⟩ d1).setCell ⟨b, 2, none⟩ d2).ownsRow base 73 3 v n xs :=
  ownsRow_setCell_other (ownsRow_setCell_other (ownsRow_setCell_other h hne d0) hne d1) hne d2

/-- Behind addRows. -/
def RowsPost (w : World) (self : Int) (m : Nat) (pa : Option Addr) (pl pc : Nat) (base : Nat) (ys : List (Int × ByteArray × Int)) (e : Ending) (w' : World) : Prop :=
  ∃ ao' cap', e = .returned (.agg #[.int .u64 self, .slice ao' m cap', .slice pa pl pc]) ∧ w'.ownsRow base 73 3 (.slice ao' m cap') m (cellsOf ys) ∧ Keeps base w w'

set_option linter.unusedSimpArgs false in
set_option maxHeartbeats 400000 in
set_option maxRecDepth 100000 in
theorem rows_any (self : Int) (ao : Option Addr) (n cap : Nat) (pa : Option Addr) (pl pc : Nat) (ro : Option Addr) (rn rc : Nat) (ID : Nat → Int) (Ad : Nat → ByteArray) (Pt : Nat → Int) (lo hi : Int)
    (base : Nat) (l : List (Int × ByteArray × Int)) (W w : World)
    (hown : w.ownsRow base 73 3 (.slice ao n cap) n (cellsOf l)) (hn : n ≤ 100000) (hrn : rn ≤ 65536) (hB : base ≤ w.heap.size) (hW : W.heap.size ≤ base) (hbW : Below W.heap.size W w)
    (hr : RowsIn W ro rn ID Ad Pt) (h0 : 0 ≤ lo) (h1 : lo ≤ hi) (h2 : hi ≤ rn) :
    Calls Try.prog 12 #[.agg #[.int .u64 self, .slice ao n cap, .slice pa pl pc], .slice ro rn rc, .int .i64 lo, .int .i64 hi] w fun e w' =>
      RowsPost w self (n + (hi.toNat - lo.toNat)) pa pl pc base (l ++ seg ID Ad Pt lo.toNat (hi.toNat - lo.toNat)) e w' := by
  obtain ⟨lo, rfl⟩ := Int.eq_ofNat_of_zero_le h0
  obtain ⟨hi, rfl⟩ := Int.eq_ofNat_of_zero_le (Int.le_trans h0 h1)
  rw [Int.toNat_natCast, Int.toNat_natCast]
  go_enter Try.func12, Try.ntmps12
  go_wp2
  go_loopw [9] (fun i wr => ∃ (j : Nat) (ao' : Option Addr) (cap' : Nat), lo ≤ j ∧ j ≤ hi ∧ i = .int .i64 j ∧ wr.heap[w.heap.size]? = some (.cells #[.int .u64 self, .slice ao' (n + (j - lo)) cap', .slice pa pl pc] 31) ∧
      wr.heap[w.heap.size + 1]? = some (.cells #[.int .u64 0, .slice none 0 0, .slice none 0 0] 31) ∧
      wr.ownsRow base 73 3 (.slice ao' (n + (j - lo)) cap') (n + (j - lo)) (cellsOf (l ++ seg ID Ad Pt lo (j - lo))) ∧ Keeps base w wr) (fun i _ => hi - (intOf i).toNat)
  case atStart =>
    refine ⟨lo, ao, cap, Nat.le_refl _, by omega, rfl, ?_, ?_, ?_, ((Keeps.refl _ _).alloc hB _).alloc (by simp; omega) _⟩
    · rw [Below.heap_alloc _ _ _ (by simp), heap_alloc_new]; simp
    · have := heap_alloc_new (w.alloc (.cells #[.int .u64 self, .slice ao n cap, .slice pa pl pc] 31)) (.cells #[.int .u64 0, .slice none 0 0, .slice none 0 0] 31)
      simpa using this
    · have := (hown.alloc (.cells #[.int .u64 self, .slice ao n cap, .slice pa pl pc] 31)).alloc (.cells #[.int .u64 0, .slice none 0 0, .slice none 0 0] 31)
      simpa [seg] using this
  case round =>
    obtain ⟨j, ao', cap', hj1, hj2, rfl, hbx, hrx, ho, hk⟩ := hrel
    have hsz := lt_of_block hrx
    have hbase : base ≤ wr.heap.size := by omega
    obtain ⟨⟨e0, e1, e2⟩, f2⟩ := box3 hbx
    obtain ⟨⟨x0, x1, x2⟩, y2⟩ := box3 hrx
    by_cases hlt : j < hi
    · obtain ⟨b, off, rfl, hbb, c0, c1, c2⟩ := (hr.below (hbW.trans (hk.1.mono hW))) j (by omega)
      obtain ⟨b', off', e', hbb', _⟩ := hr j (by omega)
      have hb3 : b < base := by cases e'; omega
      clear e' hbb'
      have hNb : ¬ w.heap.size = b := by omega
      have ho' : wr.drew.ownsRow base 73 3 (.slice ao' (n + (j - lo)) cap') (n + (j - lo)) (cellsOf (l ++ seg ID Ad Pt lo (j - lo))) := ho
      have HH : Hid _ := And.intro hbx (And.intro hrx (And.intro ho hk))
      have HO : Hid _ := ho'
      have HR : Hid _ := And.intro hown (And.intro hbW hr)
      clear hbx hrx ho hk ho' hown hbW hr
      have hm : n + (j - lo) ≤ 1000000 := by omega
      have hjr : (j : Int) < (rn : Int) := by omega
      go_wp2
      refine wp_region_noPanic ?_
      refine wp_region_held_drew (S := fun w' => w'.cell? ⟨b, off + j * 3, none⟩ = some (.int .u64 (ID j)) ∧ w'.cell? ⟨b, off + j * 3 + 1, none⟩ = some (.string (Ad j)) ∧ w'.cell? ⟨b, off + j * 3 + 2, none⟩ = some (.int .u8 (Pt j))) (by kernel_rfl) ⟨c0, c1, c2⟩ (fun hHeld => ?_)
      refine wpAnyH_take (i := 1) (oi := _) (v := ?_) rfl (by kernel_rfl) (by kernel_rfl) (by kernel_rfl) (fun _ _ _ h => h) (Or.inl ⟨by rfl, ?_⟩) hHeld ?_
      rotate_left
      · intro w hSw; obtain ⟨q0, q1, q2⟩ := hSw; go_simp; try (with_reducible rfl)
      try simp only [Act.put, List.setIfInBounds_toArray, List.set_cons_zero, List.set_cons_succ]
      refine wpAnyH_take (i := 2) (oi := _) (v := ?_) rfl (by kernel_rfl) (by kernel_rfl) (by kernel_rfl) (fun _ _ _ h => h) (Or.inl ⟨by rfl, ?_⟩) hHeld ?_
      rotate_left
      · intro w hSw; obtain ⟨q0, q1, q2⟩ := hSw; go_simp; try (with_reducible rfl)
      try simp only [Act.put, List.setIfInBounds_toArray, List.set_cons_zero, List.set_cons_succ]
      refine wpAnyH_take (i := 3) (oi := _) (v := ?_) rfl (by kernel_rfl) (by kernel_rfl) (by kernel_rfl) (fun _ _ _ h => h) (Or.inl ⟨by rfl, ?_⟩) hHeld ?_
      rotate_left
      · intro w hSw; obtain ⟨q0, q1, q2⟩ := hSw; go_simp; try (with_reducible rfl)
      try simp only [Act.put, List.setIfInBounds_toArray, List.set_cons_zero, List.set_cons_succ]
      refine wpAnyH_take (i := 4) (oi := _) (v := ?_) rfl (by kernel_rfl) (by kernel_rfl) (by kernel_rfl) (fun _ _ _ h => h) (Or.inl ⟨by rfl, ?_⟩) hHeld ?_
      rotate_left
      · intro w hSw; obtain ⟨q0, q1, q2⟩ := hSw; go_simp; try (with_reducible rfl)
      try simp only [Act.put, List.setIfInBounds_toArray, List.set_cons_zero, List.set_cons_succ]
      refine wpAnyH_take (i := 5) (oi := _) (v := ?_) rfl (by kernel_rfl) (by kernel_rfl) (by kernel_rfl) (fun _ _ _ h => h) (Or.inl ⟨by rfl, ?_⟩) hHeld ?_
      rotate_left
      · intro w hSw; obtain ⟨q0, q1, q2⟩ := hSw; go_simp; try (with_reducible rfl)
      try simp only [Act.put, List.setIfInBounds_toArray, List.set_cons_zero, List.set_cons_succ]
      refine wpAnyH_take (i := 6) (oi := _) (v := ?_) rfl (by kernel_rfl) (by kernel_rfl) (by kernel_rfl) (fun _ _ _ h => h) (Or.inl ⟨by rfl, ?_⟩) hHeld ?_
      rotate_left
      · intro w hSw; obtain ⟨q0, q1, q2⟩ := hSw; go_simp; try (with_reducible rfl)
      try simp only [Act.put, List.setIfInBounds_toArray, List.set_cons_zero, List.set_cons_succ]
      refine wpAnyH_take (i := 7) (oi := _) (v := ?_) rfl (by kernel_rfl) (by kernel_rfl) (by kernel_rfl) (fun _ _ _ h => h) (Or.inl ⟨by rfl, ?_⟩) hHeld ?_
      rotate_left
      · intro w hSw; obtain ⟨q0, q1, q2⟩ := hSw; go_simp; try (with_reducible rfl)
      try simp only [Act.put, List.setIfInBounds_toArray, List.set_cons_zero, List.set_cons_succ]
      refine wpAnyH_take (i := 8) (oi := _) (v := ?_) rfl (by kernel_rfl) (by kernel_rfl) (by kernel_rfl) (fun _ _ _ h => h) (Or.inl ⟨by rfl, ?_⟩) hHeld ?_
      rotate_left
      · intro w hSw; obtain ⟨q0, q1, q2⟩ := hSw; go_simp; try (with_reducible rfl)
      try simp only [Act.put, List.setIfInBounds_toArray, List.set_cons_zero, List.set_cons_succ]
      refine wpAnyH_take (i := 9) (oi := _) (v := ?_) rfl (by kernel_rfl) (by kernel_rfl) (by kernel_rfl) (fun _ _ _ h => h) (Or.inl ⟨by rfl, ?_⟩) hHeld ?_
      rotate_left
      · intro w hSw; obtain ⟨q0, q1, q2⟩ := hSw; go_simp; try (with_reducible rfl)
      try simp only [Act.put, List.setIfInBounds_toArray, List.set_cons_zero, List.set_cons_succ]
      refine wpAnyH_take (i := 10) (oi := _) (v := ?_) rfl (by kernel_rfl) (by kernel_rfl) (by kernel_rfl) (fun _ _ _ h => h) (Or.inl ⟨by rfl, ?_⟩) hHeld ?_
      rotate_left
      · intro w hSw; obtain ⟨q0, q1, q2⟩ := hSw; go_simp; try (with_reducible rfl)
      try simp only [Act.put, List.setIfInBounds_toArray, List.set_cons_zero, List.set_cons_succ]
      refine wpAnyH_take (i := 11) (oi := _) (v := ?_) rfl (by kernel_rfl) (by kernel_rfl) (by kernel_rfl) (fun _ _ _ h => h) (Or.inl ⟨by rfl, ?_⟩) hHeld ?_
      rotate_left
      · intro w hSw; obtain ⟨q0, q1, q2⟩ := hSw; go_simp; try (with_reducible rfl)
      try simp only [Act.put, List.setIfInBounds_toArray, List.set_cons_zero, List.set_cons_succ]
      refine wpAnyH_take (i := 12) (oi := _) (v := ?_) rfl (by kernel_rfl) (by kernel_rfl) (by kernel_rfl) (fun _ _ _ h => h) (Or.inl ⟨by rfl, ?_⟩) hHeld ?_
      rotate_left
      · intro w hSw; obtain ⟨q0, q1, q2⟩ := hSw; go_simp; try (with_reducible rfl)
      try simp only [Act.put, List.setIfInBounds_toArray, List.set_cons_zero, List.set_cons_succ]
      refine wpAnyH_take (i := 13) (oi := _) (v := ?_) rfl (by kernel_rfl) (by kernel_rfl) (by kernel_rfl) (fun _ _ _ h => h) (Or.inl ⟨by rfl, ?_⟩) hHeld ?_
      rotate_left
      · intro w hSw; obtain ⟨q0, q1, q2⟩ := hSw; go_simp; try (with_reducible rfl)
      try simp only [Act.put, List.setIfInBounds_toArray, List.set_cons_zero, List.set_cons_succ]
      refine wpAnyH_take (i := 14) (oi := _) (v := ?_) rfl (by kernel_rfl) (by kernel_rfl) (by kernel_rfl) (fun _ _ _ h => h) (Or.inl ⟨by rfl, ?_⟩) hHeld ?_
      rotate_left
      · intro w hSw; obtain ⟨q0, q1, q2⟩ := hSw; go_simp; try (with_reducible rfl)
      try simp only [Act.put, List.setIfInBounds_toArray, List.set_cons_zero, List.set_cons_succ]
      refine wpAnyH_take (i := 15) (oi := _) (v := ?_) rfl (by kernel_rfl) (by kernel_rfl) (by kernel_rfl) (fun _ _ _ h => h) (Or.inl ⟨by rfl, ?_⟩) hHeld ?_
      rotate_left
      · intro w hSw; obtain ⟨q0, q1, q2⟩ := hSw; go_simp; try (with_reducible rfl)
      try simp only [Act.put, List.setIfInBounds_toArray, List.set_cons_zero, List.set_cons_succ]
      refine wpAnyH_ready (rs := [0]) (by kernel_rfl) (by simp) ?_
      refine AllReadyH.cons (o := _) rfl (fun K hK => ?_) AllReadyH.nil
      go_simp
      refine hK.out _ _ hHeld (fun hHeld => ?_)
      clear hK K
      try simp only [Act.put, List.setIfInBounds_toArray, List.set_cons_zero, List.set_cons_succ]
      refine wpAnyH_ready (rs := [16]) (by kernel_rfl) (by simp) ?_
      refine AllReadyH.cons (o := _) rfl (fun K hK => ?_) AllReadyH.nil
      go_simp
      refine (add_any self ao' (n + (j - lo)) cap' pa pl pc (ID j) (Ad j) (Pt j) base _ _ HO.out hm hbase).mono ?_
      rintro e w' ⟨a2, k2, rfl, ho2, hg2⟩
      have hk2 := Keeps.of_grown hg2 HO.out hbase
      have hbx2 := hk2.2 _ _ HH.out.1
      obtain ⟨⟨g0, g1, g2⟩, gz⟩ := box3 hbx2
      have d0 : w'.cell? ⟨b, off + j * 3, none⟩ = some (.int .u64 (ID j)) := (hk2.1.cell (p := ⟨b, _, none⟩) hb3).trans c0
      have d1 : w'.cell? ⟨b, off + j * 3 + 1, none⟩ = some (.string (Ad j)) := (hk2.1.cell (p := ⟨b, _, none⟩) hb3).trans c1
      have d2 : w'.cell? ⟨b, off + j * 3 + 2, none⟩ = some (.int .u8 (Pt j)) := (hk2.1.cell (p := ⟨b, _, none⟩) hb3).trans c2
      have H2 : Hid _ := And.intro ho2 (And.intro hk2 hbx2)
      clear ho2 hg2 hk2 hbx2
      go_wp2_with fail
      refine hK.out _ _ ⟨d0, d1, d2⟩ (fun hHeld => ?_)
      clear hK K
      try simp only [Act.put, List.setIfInBounds_toArray, List.set_cons_zero, List.set_cons_succ]
      refine wpAnyH_ready (rs := [17]) (by kernel_rfl) (by simp) ?_
      refine AllReadyH.cons (o := _) rfl (fun K hK => ?_) AllReadyH.nil
      go_simp
      refine hK.out _ _ (by go_keep) (fun hHeld => ?_)
      clear hK K
      try simp only [Act.put, List.setIfInBounds_toArray, List.set_cons_zero, List.set_cons_succ]
      refine wpAnyH_done (by kernel_rfl) ?_ _
      refine NoPanic.normal ?_
      go_wp2
      go_roundw
      case rel =>
        have em : n + (j + 1 - lo) = n + (j - lo) + 1 := by omega
        have es : cellsOf (l ++ seg ID Ad Pt lo (j + 1 - lo)) = cellsOf (l ++ seg ID Ad Pt lo (j - lo)) ++ [.int .u64 (ID j), .string (Ad j), .int .u8 (Pt j)] := by
          rw [show j + 1 - lo = (j - lo) + 1 from by omega, seg_succ, ← List.append_assoc, cellsOf_snoc, show lo + (j - lo) = j from by omega]
        refine ⟨j + 1, a2, k2, by omega, by omega, by go_num, ?_, ?_, ?_, ?_⟩
        · rw [em]; exact box3_set H2.out.2.2 _ _ _
        · rw [box3_far (by omega)]; exact H2.out.2.1.2 _ _ HH.out.2.1
        · rw [em, es]; exact own_set3 H2.out.1 (own_ne_box H2.out.1 (by decide) H2.out.2.2) _ _ _
        · exact (HH.out.2.2.2.drew.trans H2.out.2.1).set3 (by omega) (Nat.le_refl _) _ _ _
      case measure => simp [intOf]; omega
    · have ej : j = hi := by omega
      subst ej
      have HB : Hid _ := And.intro ho hk
      have hne := own_ne_box ho (by decide) hrx
      have HN : Hid _ := hne
      clear hbx hrx ho hk hne
      go_wp2
      exact bodyPost_ret (v := .agg #[.int .u64 self, .slice ao' (n + (j - lo)) cap', .slice pa pl pc]) (by simp [results, Try.results12, go_sem, x0, x1, x2]) rfl ⟨_, _, rfl, own_set3 HB.out.1 HN.out _ _ _, HB.out.2.set3 (by omega) (by omega) _ _ _⟩
end Go.Proofs.Qxb6614540a
