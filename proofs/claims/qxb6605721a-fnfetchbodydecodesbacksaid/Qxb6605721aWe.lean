/-
  THE WALK: zzDecodeFetch.
-/
import Derived.Test.Qxb6605721aWd
namespace Go.Proofs.Qxb6605721a
open Go.RowKit
open Extern.Stop (cell)

/-- Filled up to k. -/
def part (A : List UInt8) (k : Nat) : List UInt8 := A.take k ++ List.replicate (20 - k) 0
theorem part_zero (A : List UInt8) : part A 0 = List.replicate 20 0 := by simp [part]
theorem part_all {A : List UInt8} (hA : A.length = 20) {k : Nat} (hk : 20 ≤ k) : part A k = A := by
  unfold part; rw [List.take_of_length_le (by omega), show 20 - k = 0 from by omega]; simp
theorem part_length {A : List UInt8} (hA : A.length = 20) {k : Nat} (hk : k ≤ 20) : (part A k).length = 20 := by
  unfold part; rw [List.length_append, List.length_take, List.length_replicate]; omega
theorem part_succ {A : List UInt8} (hA : A.length = 20) {k : Nat} (hk : k < 20) : (part A k).set k (A[k]'(by omega)) = part A (k + 1) := by
  unfold part
  rw [List.set_append_right _ _ (by rw [List.length_take]; omega), List.take_succ_eq_append_getElem (by omega), List.length_take, show k - min k A.length = 0 from by omega,
    show 20 - k = (20 - (k + 1)) + 1 from by omega, List.replicate_succ, List.set_cons_zero, List.append_assoc]
  rfl
/-- An array's block. -/
def Arr (w : World) (b : Nat) (xs : List UInt8) : Prop := w.heap[b]? = some (.cells (bv xs).toArray 23)
theorem Arr.cell {w : World} {b : Nat} {xs : List UInt8} (h : Arr w b xs) (j : Nat) (hj : j < xs.length) : w.cell? ⟨b, j, none⟩ = some (Extern.Stop.cell xs[j]) := by
  rw [cell_of_row _ _ _ _ _ _ h]; simp [hj]
theorem Arr.frozen {w : World} {b : Nat} {xs : List UInt8} (h : Arr w b xs) (j : Nat) : w.frozen? ⟨b, j, none⟩ = false := by
  unfold Arr at h; simp [World.frozen?, h]
theorem Arr.same {w : World} {b : Nat} {xs : List UInt8} (h : Arr w b xs) (j : Nat) (x : UInt8) : Arr (w.setCell ⟨b, j, none⟩ (Extern.Stop.cell x)) b (xs.set j x) := by
  unfold Arr
  rw [Go.heap_setCell_same w b j _ 23 _ h]
  simp [List.map_set]
theorem Arr.other {w : World} {b b' : Nat} {xs : List UInt8} (h : Arr w b xs) (hne : b ≠ b') (j : Nat) (v : Value) : Arr (w.setCell ⟨b', j, none⟩ v) b xs := by
  unfold Arr
  rw [Go.heap_setCell_other _ _ _ _ hne]; exact h
theorem Arr.range {w : World} {b : Nat} {xs : List UInt8} (h : Arr w b xs) : w.rangeAt b 0 (bv xs) := fun j v hv => by
  rw [cell_of_row _ _ _ _ _ _ h, Nat.zero_add]; simpa using hv
theorem Arr.there {w : World} {b : Nat} {xs : List UInt8} (h : Arr w b xs) : w.there b 0 xs.length := fun j hj => by
  rw [Nat.zero_add]; exact ⟨by rw [h.cell j hj]; rfl, h.frozen j⟩
theorem below_setCells {B : Nat} {a : World} (b : Nat) (hb : B ≤ b) : ∀ (vs : List Value) (o : Nat) (w : World), Below B a w → Below B a (w.setCells b o vs)
  | [], _, _, h => h
  | v :: r, o, w, h => by
    rw [World.setCells]
    exact below_setCells b hb r (o + 1) _ (h.setCell (p := ⟨b, o, none⟩) hb v)

/-- A store of a row, as a step of a region that draws its order. -/
theorem step_store_mid {P : Program} {ops : Array Oper} {op : Oper} {a : Act} {w : World} {K : Act → World → Prop} {Q : Exit → Act → World → Prop} {E : Prop} (hgd : op.guard = none) (ty : TypeId) (x y : Operand) (ho : op.op = .store ty x y)
    (b o : Nat) (cells : Array Value) (hx : a.eval x = .pointer (some ⟨b, o, none⟩)) (hy : a.eval y = .agg cells)
    (ht : w.there b o cells.size) (hi : (P.info? ty).map (·.size) = some cells.size) (h1 : cells.all (·.oneCell') = true)
    (h : K (a.put op.dst undef) (w.setCells b o cells.toList)) :
    if Region.wanted op (yielded ops a.tmps) = true then Oper.wp P op a w K Q else E := by
  have hw : Region.wanted op (yielded ops a.tmps) = true := by simp [Region.wanted, hgd]
  rw [if_pos hw]
  exact wp_store_mid ty x y ho b o cells hx hy ht hi h1 h

theorem cell_setCells_far {w : World} {g off b o : Nat} {v : Value} {vs : List Value} (h : w.cell? ⟨g, off, none⟩ = some v) (hne : g ≠ b) : (w.setCells b o vs).cell? ⟨g, off, none⟩ = some v := by
  rw [World.cell?_setCells_out b vs o w _ (fun hb _ => absurd hb hne)]; exact h

/-- What the loop keeps. -/
def DecInv (w wr : World) (A T : List UInt8) (k : Nat) : Prop :=
  Arr wr w.heap.size (List.replicate 20 0) ∧ Arr wr (w.heap.size + 1) (List.replicate 20 0) ∧ Arr wr (w.heap.size + 1 + 1) (part A k) ∧ Arr wr (w.heap.size + 1 + 1 + 1) (part T k) ∧ Below w.heap.size w wr
abbrev zObj : Obj := .cells (bv (List.replicate 20 0)).toArray 23
theorem Arr.alloc {w : World} {b : Nat} {xs : List UInt8} (h : Arr w b xs) (o : Obj) : Arr (w.alloc o) b xs := by
  unfold Arr; rw [Below.heap_alloc _ _ _ (lt_of_block h)]; exact h
theorem Arr.new (w : World) (xs : List UInt8) (b : Nat) (hb : b = w.heap.size) : Arr (w.alloc (.cells (bv xs).toArray 23)) b xs := by subst hb; exact heap_alloc_new w _
theorem dec_start (w : World) (A T : List UInt8) : DecInv w ((((w.alloc zObj).alloc zObj).alloc zObj).alloc zObj) A T 0 := by
  refine ⟨(((Arr.new w _ _ rfl).alloc _).alloc _).alloc _, ((Arr.new _ _ _ (by simp)).alloc _).alloc _, ?_, ?_, ((((Below.refl _ _).alloc (Nat.le_refl _) _).alloc (by simp) _).alloc (by simp; omega) _).alloc (by simp; omega) _⟩
  · rw [part_zero]; exact (Arr.new _ _ _ (by simp)).alloc _
  · rw [part_zero]; exact Arr.new _ _ _ (by simp)

set_option linter.unusedSimpArgs false in
set_option maxHeartbeats 1000000 in
set_option maxRecDepth 100000 in
theorem dec_any (g off c : Nat) (h : UInt8) (A T : List UInt8) (w : World) (hA : A.length = 20) (hT : T.length = 20) (hs : SrcIn w (some ⟨g, off, none⟩) (h :: (A ++ T))) :
    Calls Try.prog 9 #[.slice (some ⟨g, off, none⟩) 41 c] w fun e w' => e = .returned (.tuple #[.int .u8 (h.toNat : Int), av A, av T]) ∧ Below w.heap.size w w' := by
  have HS := hidI hs
  have HA := hidI hA
  have HT := hidI hT
  clear hs hA hT
  go_enter Try.func9, Try.ntmps9
  go_wp2
  go_loopw [7] (fun i wr => ∃ k : Nat, k ≤ 20 ∧ i = .int .i64 k ∧ DecInv w wr A T k) (fun i _ => 20 - (intOf i).toNat)
  case atStart => exact ⟨0, Nat.zero_le _, rfl, dec_start w A T⟩
  case round =>
    obtain ⟨k, hk, rfl, hinv⟩ := hrel
    by_cases hlt : k < 20
    · obtain ⟨i0, i1, i2, i3, hb⟩ := hinv
      have lA := HA.out
      have lT := HT.out
      have hkA : k < A.length := by omega
      have hkT : k < T.length := by omega
      obtain ⟨b1, o1, e1, hl1, c1⟩ := (HS.out.below hb) (k + 1) (by simp; omega)
      obtain ⟨b2, o2, e2, hl2, c2⟩ := (HS.out.below hb) (k + 21) (by simp; omega)
      obtain ⟨b3, o3, e3, hl3, c3⟩ := HS.out 0 (by simp)
      cases e1
      cases e2
      cases e3
      have d1 : wr.cell? ⟨g, off + (1 + k), none⟩ = some (.int .u8 (A[k].toNat : Int)) := by
        rw [Nat.add_comm 1 k, c1]
        simp only [List.getElem_cons_succ, List.getElem_append_left hkA]; rfl
      have d2 : wr.cell? ⟨g, off + (21 + k), none⟩ = some (.int .u8 (T[k].toNat : Int)) := by
        rw [Nat.add_comm 21 k, c2]
        have e : (h :: (A ++ T))[k + 21]'(by simp; omega) = T[k] := by
          show (A ++ T)[k + 20]'(by simp; omega) = T[k]
          rw [List.getElem_append_right (by omega)]
          congr 1; omega
        rw [e]; rfl
      have pA := part_length lA hk
      have pT := part_length lT hk
      obtain ⟨u1, f1⟩ : ∃ u, wr.cell? ⟨w.heap.size + 1 + 1, k, none⟩ = some u := ⟨_, i2.cell k (by omega)⟩
      have f2 := i2.frozen k
      obtain ⟨u2, f3⟩ : ∃ u, wr.cell? ⟨w.heap.size + 1 + 1 + 1, k, none⟩ = some u := ⟨_, i3.cell k (by omega)⟩
      have f4 := i3.frozen k
      have hgn : g < w.heap.size := hl3
      have hg1 : ¬ w.heap.size + 1 + 1 = g := by omega
      have hg2 : ¬ w.heap.size + 1 + 1 + 1 = g := by omega
      have j2 : Arr ((wr.setCell ⟨w.heap.size + 1 + 1, k, none⟩ (.int .u8 (A[k].toNat : Int))).setCell ⟨w.heap.size + 1 + 1 + 1, k, none⟩ (.int .u8 (T[k].toNat : Int))) (w.heap.size + 1 + 1) (part A (k + 1)) := by
        rw [← part_succ lA hlt]; exact (i2.same k A[k]).other (by omega) _ _
      have j3 : Arr ((wr.setCell ⟨w.heap.size + 1 + 1, k, none⟩ (.int .u8 (A[k].toNat : Int))).setCell ⟨w.heap.size + 1 + 1 + 1, k, none⟩ (.int .u8 (T[k].toNat : Int))) (w.heap.size + 1 + 1 + 1) (part T (k + 1)) := by
        rw [← part_succ lT hlt]; exact (i3.other (by omega) k _).same k T[k]
      have HJ := hidI (And.intro ((i0.other (b' := w.heap.size + 1 + 1) (by omega) k (.int .u8 (A[k].toNat : Int))).other (b' := w.heap.size + 1 + 1 + 1) (by omega) k (.int .u8 (T[k].toNat : Int)))
        (And.intro ((i1.other (b' := w.heap.size + 1 + 1) (by omega) k (.int .u8 (A[k].toNat : Int))).other (b' := w.heap.size + 1 + 1 + 1) (by omega) k (.int .u8 (T[k].toNat : Int)))
        (And.intro j2 (And.intro j3 ((hb.setCell (p := ⟨w.heap.size + 1 + 1, k, none⟩) (by show w.heap.size ≤ w.heap.size + 1 + 1; omega) (.int .u8 (A[k].toNat : Int))).setCell (p := ⟨w.heap.size + 1 + 1 + 1, k, none⟩) (by show w.heap.size ≤ w.heap.size + 1 + 1 + 1; omega) (.int .u8 (T[k].toNat : Int)))))))
      clear i0 i1 i2 i3 hb c1 c2 c3 j2 j3 pA pT lA lT
      go_wp2
      go_roundw
      case rel => exact ⟨k + 1, by omega, by go_num, HJ.out⟩
      case measure => simp [intOf]; omega
    · obtain ⟨i0, i1, i2, i3, hb⟩ := hinv
      rw [part_all HA.out (by omega)] at i2
      rw [part_all HT.out (by omega)] at i3
      obtain ⟨b3, o3, e3, hl3, c3⟩ := HS.out 0 (by simp)
      cases e3
      have c0 : wr.cell? ⟨g, off, none⟩ = some (.int .u8 (h.toNat : Int)) := (hb.cell (p := ⟨g, off, none⟩) hl3).trans c3
      have zA : (Try.prog.info? 23).map (·.size) = some (bv A).length := by rw [Try.info23]; simp [HA.out]
      have zT : (Try.prog.info? 23).map (·.size) = some (bv T).length := by rw [Try.info23]; simp [HT.out]
      have HZ := hidI (And.intro zA zT)
      have HI := hidI (And.intro i0 (And.intro i1 hb))
      have r2 := i2.range
      have r3 := i3.range
      clear i0 i1 i2 i3 hb c3 zA zT
      have hge : ¬ k < 20 := hlt
      go_wp2_with fail
      refine wp_region_noPanic ?_
      refine wp_region_held_drew (S := fun w' => w'.cell? ⟨g, off, none⟩ = some (.int .u8 (h.toNat : Int)) ∧ w'.rangeAt (w.heap.size + 1 + 1) 0 (bv A) ∧ w'.rangeAt (w.heap.size + 1 + 1 + 1) 0 (bv T)) (by kernel_rfl) ⟨c0, (World.rangeAt_drew _ _ _ _).2 r2, (World.rangeAt_drew _ _ _ _).2 r3⟩ (fun hHeld => ?_)
      refine wpAnyH_take (i := 0) (oi := _) (v := ?_) rfl (by kernel_rfl) (by kernel_rfl) (by kernel_rfl) (fun _ _ _ h => h) (Or.inl ⟨by rfl, ?_⟩) hHeld ?_
      rotate_left
      · intro w hSw; have q0 := hSw.1; go_simp; try (with_reducible rfl)
      try simp only [Act.put, List.setIfInBounds_toArray, List.set_cons_zero, List.set_cons_succ]
      refine wpAnyH_take (i := 1) (oi := _) (v := ?_) rfl (by kernel_rfl) (by kernel_rfl) (by kernel_rfl) (fun _ _ _ h => h) (Or.inl ⟨by rfl, ?_⟩) hHeld ?_
      rotate_left
      · intro w hSw; have q0 := hSw.1; go_simp; try (with_reducible rfl)
      try simp only [Act.put, List.setIfInBounds_toArray, List.set_cons_zero, List.set_cons_succ]
      refine wpAnyH_take (i := 2) (oi := _) (v := ?_) rfl (by kernel_rfl) (by kernel_rfl) (by kernel_rfl) (fun _ _ _ h => h) (Or.inl ⟨by rfl, ?_⟩) hHeld ?_
      rotate_left
      · intro w hSw; have q0 := hSw.1; go_simp; try (with_reducible rfl)
      try simp only [Act.put, List.setIfInBounds_toArray, List.set_cons_zero, List.set_cons_succ]
      refine wpAnyH_take (i := 3) (oi := _) rfl (by kernel_rfl) (by kernel_rfl) (by kernel_rfl) (fun _ _ _ h => h) (yieldsIf_load_mid (by rfl) 23 (.tmp 5) rfl _ _ rfl _ _ (fun w hSw => hSw.2.1) Try.underlying23 rfl HZ.out.1) hHeld ?_
      try simp only [Act.put, List.setIfInBounds_toArray, List.set_cons_zero, List.set_cons_succ]
      refine wpAnyH_take (i := 4) (oi := _) rfl (by kernel_rfl) (by kernel_rfl) (by kernel_rfl) (fun _ _ _ h => h) (yieldsIf_load_mid (by rfl) 23 (.tmp 6) rfl _ _ rfl _ _ (fun w hSw => hSw.2.2) Try.underlying23 rfl HZ.out.2) hHeld ?_
      try simp only [Act.put, List.setIfInBounds_toArray, List.set_cons_zero, List.set_cons_succ]
      refine wpAnyH_ready (rs := [5]) (by kernel_rfl) (by simp) ?_
      refine AllReadyH.cons (o := _) rfl (fun K hK => ?_) AllReadyH.nil
      go_simp
      refine hK.out _ _ hHeld (fun hHeld => ?_)
      clear hK K
      try simp only [Act.put, List.setIfInBounds_toArray, List.set_cons_zero, List.set_cons_succ]
      refine wpAnyH_ready (rs := [6]) (by kernel_rfl) (by simp) ?_
      refine AllReadyH.cons (o := _) rfl (fun K hK => ?_) AllReadyH.nil
      have th0 : wr.drew.there w.heap.size 0 20 := (World.there_drew _ _ _ _).2 HI.out.1.there
      have th1 : wr.drew.there (w.heap.size + 1) 0 20 := (World.there_drew _ _ _ _).2 HI.out.2.1.there
      have sA : (bv A).toArray.size = 20 := by simp [HA.out]
      have sT : (bv T).toArray.size = 20 := by simp [HT.out]
      have gA : (bv A).length = 20 := by simp [HA.out]
      have gT : (bv T).length = 20 := by simp [HT.out]
      refine step_store_mid rfl 23 (.tmp 3) (.tmp 34) rfl (w.heap.size) 0 (bv A).toArray rfl rfl ?_ ?_ ?_ ?_
      · rw [sA]; exact th0
      · rw [Try.info23, sA]
      · exact all_oneCell_toArray (bv_one _)
      have t0 : (wr.drew.setCells w.heap.size 0 (bv A)).cell? ⟨g, off, none⟩ = some (.int .u8 (h.toNat : Int)) := cell_setCells_far hHeld.1 (by omega)
      have t1 : (wr.drew.setCells w.heap.size 0 (bv A)).rangeAt (w.heap.size + 1 + 1) 0 (bv A) := World.rangeAt_setCells_apart hHeld.2.1 _ _ _ (.inl (by omega))
      have t2 : (wr.drew.setCells w.heap.size 0 (bv A)).rangeAt (w.heap.size + 1 + 1 + 1) 0 (bv T) := World.rangeAt_setCells_apart hHeld.2.2 _ _ _ (.inl (by omega))
      refine hK.out _ _ ⟨t0, t1, t2⟩ (fun hHeld => ?_)
      clear hK K
      try simp only [Act.put, List.setIfInBounds_toArray, List.set_cons_zero, List.set_cons_succ]
      refine wpAnyH_ready (rs := [7]) (by kernel_rfl) (by simp) ?_
      refine AllReadyH.cons (o := _) rfl (fun K hK => ?_) AllReadyH.nil
      refine step_store_mid rfl 23 (.tmp 4) (.tmp 35) rfl (w.heap.size + 1) 0 (bv T).toArray rfl rfl ?_ ?_ ?_ ?_
      · rw [sT]; exact World.there_setCells th1 _ _ _
      · rw [Try.info23, sT]
      · exact all_oneCell_toArray (bv_one _)
      refine hK.out _ _ ⟨cell_setCells_far t0 (by omega), World.rangeAt_setCells_apart t1 _ _ _ (.inl (by omega)), World.rangeAt_setCells_apart t2 _ _ _ (.inl (by omega))⟩ (fun hHeld => ?_)
      clear hK K
      try simp only [Act.put, List.setIfInBounds_toArray, List.set_cons_zero, List.set_cons_succ]
      refine wpAnyH_done (by kernel_rfl) ?_ _
      refine NoPanic.normal ?_
      have F1 : ((wr.drew.setCells w.heap.size 0 (bv A)).setCells (w.heap.size + 1) 0 (bv T)).rangeAt w.heap.size 0 (bv A) :=
        World.rangeAt_setCells_apart (World.rangeAt_setCells_same _ _ _ _ (by rw [gA]; exact th0)) _ _ _ (.inl (by omega))
      have F2 : ((wr.drew.setCells w.heap.size 0 (bv A)).setCells (w.heap.size + 1) 0 (bv T)).rangeAt (w.heap.size + 1) 0 (bv T) :=
        World.rangeAt_setCells_same _ _ _ _ (by rw [gT]; exact World.there_setCells th1 _ _ _)
      have L1 := run_loadVar_mid (P := Try.prog) _ _ _ 23 _ _ F1 Try.underlying23 rfl HZ.out.1
      have L2 := run_loadVar_mid (P := Try.prog) _ _ _ 23 _ _ F2 Try.underlying23 rfl HZ.out.2
      have HW := hidI (below_setCells (w.heap.size + 1) (Nat.le_succ _) (bv T) 0 _ (below_setCells w.heap.size (Nat.le_refl _) (bv A) 0 _ HI.out.2.2.drew))
      have HL := hidI (And.intro L1 L2)
      clear F1 F2 L1 L2 t0 t1 t2 th0 th1 r2 r3 c0
      go_wp2
      exact bodyPost_ret (v := .tuple #[.int .u8 (h.toNat : Int), av A, av T]) (by simp [results, Try.results9, asAddr, HL.out.1, HL.out.2]) rfl ⟨rfl, HW.out⟩
end Go.Proofs.Qxb6605721a
