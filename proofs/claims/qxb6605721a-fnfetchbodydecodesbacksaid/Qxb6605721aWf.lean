/-
  THE WALK OF FnFetchBodyDecodesBack.
-/
import Derived.Test.Qxb6605721aWe
namespace Go.Proofs.Qxb6605721a
open Go.RowKit
open Extern.Stop (cell)

/-- The two boxes of the law's arrays. -/
def Two (w : World) (B : Nat) (A T : List UInt8) : Prop := B + 1 < w.heap.size ∧ w.rangeAt B 0 (bv A) ∧ w.rangeAt (B + 1) 0 (bv T)
theorem Two.below {w w' : World} {B : Nat} {A T : List UInt8} (h : Two w B A T) (hb : Below w.heap.size w w') : Two w' B A T := by
  obtain ⟨h0, h1, h2⟩ := h
  exact ⟨Nat.lt_of_lt_of_le h0 hb.size, range_below h1 hb (by omega), range_below h2 hb (by omega)⟩
theorem Two.far {w w' : World} {B : Nat} {A T : List UInt8} {r : Option Nat} (h : Two w B A T) (hg : w.grownBy w' r) (hr : ∀ k, r = some k → B + 1 < k) : Two w' B A T := by
  obtain ⟨h0, h1, h2⟩ := h
  exact ⟨Nat.lt_of_lt_of_le h0 hg.size, range_far h1 hg (by omega) (fun e => by have := hr _ e.symm; omega), range_far h2 hg (by omega) (fun e => by have := hr _ e.symm; omega)⟩

/-- A whole row into the block that was made last. -/
theorem wpList_store_new {P : Program} {ops : Array Oper} {rest : List Oper} {o : Oper} {a : Act} {w : World} {Q : Exit → Act → World → Prop} (hgd : o.guard = none) (ty : TypeId) (x y : Operand) (ho : o.op = .store ty x y)
    (w0 : World) (old cells : Array Value) (hx : a.eval x = .pointer (some ⟨w0.heap.size, 0, none⟩)) (hy : a.eval y = .agg cells) (hw : w = w0.alloc (.cells old ty))
    (hi : (P.info? ty).map (·.size) = some cells.size) (hold : old.size = cells.size) (h1 : cells.all (·.oneCell') = true)
    (h : wpList P ops Q rest (a.put o.dst undef) (w0.alloc (.cells cells ty))) : wpList P ops Q (o :: rest) a w := by
  subst hw
  refine wpList_store_row hgd ty x y ho w0.heap.size cells hx hy ty old (heap_alloc_new w0 _) hi hold h1 ?_
  rw [World.setRow_alloc_new]; exact h

set_option linter.unusedSimpArgs false in
set_option maxHeartbeats 1000000 in
set_option maxRecDepth 100000 in
theorem back_any (po : Option Addr) (n c : Nat) (h : UInt8) (A T xs : List UInt8) (w : World) (hA : A.length = 20) (hT : T.length = 20) (hn : n ≤ maxLen) (hx : xs.length = n) (hs : SrcIn w po xs) (hpo : po = none → n = 0) :
    Calls Try.prog 3 #[.slice po n c, .int .u8 (h.toNat : Int), av A, av T] w fun e w' => e = .returned (.bool true) ∧ Below w.heap.size w w' := by
  have b1 := range_new w (bv A) 23
  have b2 := range_new (w.alloc (.cells (bv A).toArray 23)) (bv T) 23
  have c1 := World.rangeAt_alloc b1 (.cells (bv T).toArray 23)
  have z1 : (Try.prog.info? 23).map (·.size) = some (bv A).length := by rw [Try.info23]; simp [hA]
  have z2 : (Try.prog.info? 23).map (·.size) = some (bv T).length := by rw [Try.info23]; simp [hT]
  have z3 : (Try.prog.info? 28).map (·.size) = some (cell h :: (bv A ++ bv T)).toArray.size := by rw [Try.info28]; simp [hA, hT]
  have z4 : (41 : Nat) = (cell h :: (bv A ++ bv T)).toArray.size := by simp [hA, hT]
  have z5 : (cell h :: (bv A ++ bv T)).toArray.all (·.oneCell') = true := all_oneCell_toArray (by
    intro v hv
    rcases List.mem_cons.1 hv with rfl | hv
    · rfl
    · rcases List.mem_append.1 hv with hv | hv
      · exact bv_one A _ hv
      · exact bv_one T _ hv)
  simp only [World.size_alloc] at b2
  have HZ := hidI (And.intro z1 (And.intro z2 (And.intro z3 (And.intro z4 z5))))
  have HS := hidI (And.intro hs (And.intro hpo (And.intro hx (And.intro hA hT))))
  have HQ : Hid (Two _ w.heap.size A T) := ⟨by simp, c1, b2⟩
  have HB := hidI (((Below.refl w.heap.size w).alloc (Nat.le_refl _) (.cells (bv A).toArray 23)).alloc (by simp) (.cells (bv T).toArray 23))
  clear b1 b2 c1 z1 z2 z3 z4 z5 hs hpo hx hA hT
  have hm := hn
  unfold maxLen at hm
  go_enter Try.func3, Try.ntmps3
  go_wp2_with (first
    | refine wpList_load_mid rfl 23 (.tmp 6) rfl _ _ rfl _ _ HQ.out.2.1 Try.underlying23 rfl HZ.out.1 ?_
    | refine wpList_load_mid rfl 23 (.tmp 7) rfl _ _ rfl _ _ HQ.out.2.2 Try.underlying23 rfl HZ.out.2.1 ?_)
  refine (bytes5 po n c h A T hn _).mono ?_
  rintro e w1 ⟨⟨r, rfl⟩, hb1⟩
  have HQ := hidI (HQ.out.below hb1)
  have HB := hidI (HB.out.trans (hb1.mono HB.out.size))
  have q0 := HQ.out.1
  clear hb1
  cases r with
  | false =>
    go_wp2
    go_ret
    exact ⟨rfl, HB.out⟩
  | true =>
  by_cases h20 : n ≤ 1048576
  case neg =>
    go_wp2
    go_ret
    exact ⟨rfl, HB.out⟩
  clear hn hm
  go_wp2_with fail
  refine (clone_any po n c xs _ HS.out.2.2.1 h20 (HS.out.1.below HB.out) HS.out.2.1).mono ?_
  rintro e w2 ⟨po1, c1, rfl, o1, hb1⟩
  have H1 := hidI o1
  have HQ := hidI (HQ.out.below hb1)
  have HB := hidI (HB.out.trans (hb1.mono HB.out.size))
  have q1 := hb1.size
  clear hb1 o1
  go_wp2_with (first
    | refine wpList_load_mid rfl 23 (.tmp 6) rfl _ _ rfl _ _ HQ.out.2.1 Try.underlying23 rfl HZ.out.1 ?_
    | refine wpList_load_mid rfl 23 (.tmp 7) rfl _ _ rfl _ _ HQ.out.2.2 Try.underlying23 rfl HZ.out.2.1 ?_
    | refine wpList_made rfl 28 _ rfl [(0, cell h), (1, av A), (2, av T)] _ (by first | rfl | kernel_rfl | simp [Act.eval]) (built_ok h A T HS.out.2.2.2.1 HS.out.2.2.2.2) ?_
    | refine wpList_store_new rfl 28 (.tmp 9) (.tmp 29) rfl w2 _ (cell h :: (bv A ++ bv T)).toArray rfl rfl rfl HZ.out.2.2.1 HZ.out.2.2.2.1 HZ.out.2.2.2.2 ?_)
  try simp only [Act.put, List.setIfInBounds_toArray, List.set_cons_zero, List.set_cons_succ]
  have rm := range_new w2 (cell h :: (bv A ++ bv T)) 28
  have HQ := hidI (HQ.out.below ((Below.refl _ _).alloc (Nat.le_refl _) (.cells (cell h :: (bv A ++ bv T)).toArray 28)))
  have H1 := hidI (own_below H1.out ((Below.refl _ _).alloc (Nat.le_refl _) (.cells (cell h :: (bv A ++ bv T)).toArray 28)))
  have HB := hidI (HB.out.alloc HB.out.size (.cells (cell h :: (bv A ++ bv T)).toArray 28))
  have zs : (w2.alloc (.cells (cell h :: (bv A ++ bv T)).toArray 28)).heap.size = w2.heap.size + 1 := by simp
  refine wp_region_noPanic ?_
  refine wp_region_held_drew (S := fun w' => w'.rangeAt w2.heap.size 0 (cell h :: (bv A ++ bv T))) (by kernel_rfl) ((World.rangeAt_drew _ _ _ _).2 rm) (fun hHeld => ?_)
  have HQ : Hid (Two (w2.alloc (.cells (cell h :: (bv A ++ bv T)).toArray 28)).drew w.heap.size A T) := HQ.out.below ((Below.refl _ _).drew)
  have H1 : Hid ((w2.alloc (.cells (cell h :: (bv A ++ bv T)).toArray 28)).drew.ownsRow w1.heap.size 5 1 (.slice po1 n c1) n (bv xs)) := H1.out.drew
  have HB : Hid (Below w.heap.size w (w2.alloc (.cells (cell h :: (bv A ++ bv T)).toArray 28)).drew) := HB.out.drew
  have zs : (w2.alloc (.cells (cell h :: (bv A ++ bv T)).toArray 28)).drew.heap.size = w2.heap.size + 1 := zs
  clear rm
  have HL1 := hidI H1.out.lt
  generalize (w2.alloc (.cells (cell h :: (bv A ++ bv T)).toArray 28)).drew = w3 at *
  refine wpAnyH_take (i := 0) (oi := _) rfl (by kernel_rfl) (by kernel_rfl) (by kernel_rfl) (fun _ _ _ h => h) (yieldsIf_load_mid (by rfl) 28 (.tmp 9) rfl _ _ rfl _ _ (fun w hSw => hSw) Try.underlying28 rfl HZ.out.2.2.1) hHeld ?_
  try simp only [Act.put, List.setIfInBounds_toArray, List.set_cons_zero, List.set_cons_succ]
  refine wpAnyH_take (i := 1) (oi := _) (v := ?_) rfl (by kernel_rfl) (by kernel_rfl) (by kernel_rfl) (fun _ _ _ h => h) (Or.inl ⟨by rfl, ?_⟩) hHeld ?_
  rotate_left
  · intro w hSw; go_simp; try (with_reducible rfl)
  try simp only [Act.put, List.setIfInBounds_toArray, List.set_cons_zero, List.set_cons_succ]
  refine wpAnyH_ready (rs := [2]) (by kernel_rfl) (by simp) ?_
  refine AllReadyH.cons (o := _) rfl (fun K hK => ?_) AllReadyH.nil
  go_simp
  refine (clone_any po1 n c1 xs _ HS.out.2.2.1 h20 (own_src H1.out) (own_nil H1.out)).mono ?_
  rintro e w4 ⟨po2, c2, rfl, o2, hb2⟩
  have H1 := hidI (own_below H1.out hb2)
  have H2 := hidI o2
  have HQ := hidI (HQ.out.below hb2)
  have HB := hidI (HB.out.trans (hb2.mono HB.out.size))
  have q2 := hb2.size
  have rm := range_below hHeld hb2 (by omega)
  have HR := hidI rm
  have HL2 := hidI o2.lt
  clear hb2 o2 hHeld rm
  go_wp2_with fail
  refine hK.out _ _ HR.out (fun hHeld => ?_)
  clear hK K
  try simp only [Act.put, List.setIfInBounds_toArray, List.set_cons_zero, List.set_cons_succ]
  refine wpAnyH_ready (rs := [3]) (by kernel_rfl) (by simp) ?_
  refine AllReadyH.cons (o := _) rfl (fun K hK => ?_) AllReadyH.nil
  go_simp
  refine (zz_any po2 n c2 w3.heap.size h A T xs _ HS.out.2.2.2.1 HS.out.2.2.2.2 h20 (by omega) H2.out).mono ?_
  rintro e w5 ⟨g5, c5, rfl, o5, gr5, loc5⟩
  have HQ := hidI (HQ.out.far gr5 (fun k hk => by have := HL2.out k hk; omega))
  have H1 := hidI (own_far H1.out gr5 (fun k hk e => by have a := HL1.out k hk; have b := HL2.out k e.symm; omega))
  have HB := hidI (HB.out.grown gr5 HB.out.size (fun k hk => by have := HL2.out k hk; have := HB.out.size; omega))
  have H5 := hidI o5
  have HR := hidI (range_far hHeld gr5 (by omega) (fun e => by have b := HL2.out _ e.symm; omega))
  have hcap : n + 41 ≤ c5 := by
    rcases o5.2 with ⟨e, _⟩ | ⟨g, cap, cur, e, _, _, h3, _⟩
    · cases e
    · cases e; exact h3
  clear gr5 o5 loc5 H2 hHeld HL1 HL2
  go_wp2_with fail
  refine hK.out _ _ HR.out (fun hHeld => ?_)
  clear hK K
  try simp only [Act.put, List.setIfInBounds_toArray, List.set_cons_zero, List.set_cons_succ]
  refine wpAnyH_take (i := 4) (oi := _) (v := ?_) rfl (by kernel_rfl) (by kernel_rfl) (by kernel_rfl) (fun _ _ _ h => h) (Or.inl ⟨by rfl, ?_⟩) hHeld ?_
  rotate_left
  · intro w hSw; go_simp; try (with_reducible rfl)
  try simp only [Act.put, List.setIfInBounds_toArray, List.set_cons_zero, List.set_cons_succ]
  refine wpAnyH_take (i := 5) (oi := _) (v := ?_) rfl (by kernel_rfl) (by kernel_rfl) (by kernel_rfl) (fun _ _ _ h => h) (Or.inl ⟨by rfl, ?_⟩) hHeld ?_
  rotate_left
  · intro w hSw; go_simp; try (with_reducible rfl)
  try simp only [Act.put, List.setIfInBounds_toArray, List.set_cons_zero, List.set_cons_succ]
  refine wpAnyH_take (i := 6) (oi := _) (v := ?_) rfl (by kernel_rfl) (by kernel_rfl) (by kernel_rfl) (fun _ _ _ h => h) (Or.inl ⟨by rfl, ?_⟩) hHeld ?_
  rotate_left
  · intro w hSw; go_simp; try (with_reducible rfl)
  try simp only [Act.put, List.setIfInBounds_toArray, List.set_cons_zero, List.set_cons_succ]
  refine wpAnyH_ready (rs := [7]) (by kernel_rfl) (by simp) ?_
  refine AllReadyH.cons (o := _) rfl (fun K hK => ?_) AllReadyH.nil
  go_simp
  refine hK.out _ _ HR.out (fun hHeld => ?_)
  clear hK K
  try simp only [Act.put, List.setIfInBounds_toArray, List.set_cons_zero, List.set_cons_succ]
  refine wpAnyH_ready (rs := [8]) (by kernel_rfl) (by simp) ?_
  refine AllReadyH.cons (o := _) rfl (fun K hK => ?_) AllReadyH.nil
  go_simp
  refine hK.out _ _ HR.out (fun hHeld => ?_)
  clear hK K
  try simp only [Act.put, List.setIfInBounds_toArray, List.set_cons_zero, List.set_cons_succ]
  refine wpAnyH_done (by kernel_rfl) ?_ _
  refine NoPanic.normal ?_
  clear hHeld HR
  have S5 := own_src H5.out
  have Sx : SrcIn w5 (some ⟨g5, 0, none⟩) xs := fun k hk => by
    obtain ⟨b, o, e, hl, hc⟩ := S5 k (by simp; omega)
    refine ⟨b, o, e, hl, ?_⟩
    rw [hc, List.getElem_append_left hk]
  have Sz : SrcIn w5 (some ⟨g5, n, none⟩) (h :: (A ++ T)) := fun k hk => by
    obtain ⟨b, o, e, hl, hc⟩ := S5 (n + k) (by have := HS.out.2.2.1; rw [List.length_append]; omega)
    cases e
    refine ⟨g5, n, rfl, hl, ?_⟩
    rw [Nat.zero_add] at hc
    rw [hc, List.getElem_append_right (by have := HS.out.2.2.1; omega)]
    congr 3
    have := HS.out.2.2.1; omega
  have HX := hidI (And.intro Sx Sz)
  clear S5 Sx Sz
  go_wp2_with fail
  refine (equal_any (some ⟨g5, 0, none⟩) po1 n n c5 c1 xs xs _ HS.out.2.2.1 HS.out.2.2.1 (by omega) (by omega) HX.out.1 (own_src H1.out)).mono ?_
  rintro e w6 ⟨rfl, hb6⟩
  have HQ := hidI (HQ.out.below hb6)
  have HB := hidI (HB.out.trans (hb6.mono HB.out.size))
  have HY := hidI (HX.out.2.below hb6)
  clear hb6 H1 H5 HX
  rw [show decide (xs = xs) = true from by simp]
  go_wp2_with fail
  refine (dec_any g5 n (c5 - n) h A T _ HS.out.2.2.2.1 HS.out.2.2.2.2 HY.out).mono ?_
  rintro e w7 ⟨rfl, hb7⟩
  have HQ := hidI (HQ.out.below hb7)
  have HB := hidI (HB.out.trans (hb7.mono HB.out.size))
  have sA : (bv A).toArray.size = 20 := by simp [HS.out.2.2.2.1]
  have sT : (bv T).toArray.size = 20 := by simp [HS.out.2.2.2.2]
  have gA : (bv A).length = 20 := by simp [HS.out.2.2.2.1]
  have gT : (bv T).length = 20 := by simp [HS.out.2.2.2.2]
  have y1 : Arr ((w7.alloc zObj).alloc zObj) w7.heap.size (List.replicate 20 0) := (Arr.new w7 _ _ rfl).alloc _
  have y2 : Arr ((w7.alloc zObj).alloc zObj) (w7.heap.size + 1) (List.replicate 20 0) := Arr.new _ _ _ (by simp)
  have t1 : ((w7.alloc zObj).alloc zObj).there w7.heap.size 0 (bv A).toArray.size := by rw [sA]; exact y1.there
  have t2 : (((w7.alloc zObj).alloc zObj).setCells w7.heap.size 0 (bv A)).there (w7.heap.size + 1) 0 (bv T).toArray.size := by rw [sT]; exact World.there_setCells y2.there _ _ _
  have F1 : ((((w7.alloc zObj).alloc zObj).setCells w7.heap.size 0 (bv A)).setCells (w7.heap.size + 1) 0 (bv T)).rangeAt w7.heap.size 0 (bv A) :=
    World.rangeAt_setCells_apart (World.rangeAt_setCells_same _ _ _ _ (by rw [gA]; exact y1.there)) _ _ _ (.inl (by omega))
  have F2 : ((((w7.alloc zObj).alloc zObj).setCells w7.heap.size 0 (bv A)).setCells (w7.heap.size + 1) 0 (bv T)).rangeAt (w7.heap.size + 1) 0 (bv T) :=
    World.rangeAt_setCells_same _ _ _ _ (by rw [gT]; exact World.there_setCells y2.there _ _ _)
  have B9 : Below w7.heap.size w7 ((((w7.alloc zObj).alloc zObj).setCells w7.heap.size 0 (bv A)).setCells (w7.heap.size + 1) 0 (bv T)) :=
    below_setCells _ (Nat.le_succ _) _ _ _ (below_setCells _ (Nat.le_refl _) _ _ _ (((Below.refl _ _).alloc (Nat.le_refl _) _).alloc (by simp) _))
  have HQ := hidI (HQ.out.below B9)
  have HB := hidI (HB.out.trans (B9.mono HB.out.size))
  have HT := hidI (And.intro t1 (And.intro t2 (And.intro F1 F2)))
  have HI := hidI (And.intro (show (Try.prog.info? 23).map (·.size) = some (bv A).toArray.size by rw [Try.info23, sA]) (show (Try.prog.info? 23).map (·.size) = some (bv T).toArray.size by rw [Try.info23, sT]))
  have ea : ∀ w, (binOp .eql 23 (.agg (bv A).toArray) (.agg (bv A).toArray)).run Try.prog w = .ok (.bool true) w := fun w => by rw [eql_av A A HS.out.2.2.2.1 HS.out.2.2.2.1 w]; simp
  have et : ∀ w, (binOp .eql 23 (.agg (bv T).toArray) (.agg (bv T).toArray)).run Try.prog w = .ok (.bool true) w := fun w => by rw [eql_av T T HS.out.2.2.2.2 HS.out.2.2.2.2 w]; simp
  clear hb7 HY B9 F1 F2 t1 t2 y1 y2 sA sT gA gT
  go_wp2_with (first
    | refine wpList_store_mid rfl 23 (.tmp 13) (.tmp 59) rfl _ _ (bv A).toArray rfl rfl HT.out.1 HI.out.1 (all_oneCell_toArray (bv_one _)) ?_
    | refine wpList_store_mid rfl 23 (.tmp 14) (.tmp 60) rfl _ _ (bv T).toArray rfl rfl HT.out.2.1 HI.out.2 (all_oneCell_toArray (bv_one _)) ?_
    | refine wpList_load_wanted rfl 23 (.tmp 13) rfl _ _ rfl _ _ HT.out.2.2.1 Try.underlying23 rfl HZ.out.1 ?_
    | refine wpList_load_wanted rfl 23 (.tmp 6) rfl _ _ rfl _ _ HQ.out.2.1 Try.underlying23 rfl HZ.out.1 ?_
    | refine wpList_load_wanted rfl 23 (.tmp 14) rfl _ _ rfl _ _ HT.out.2.2.2 Try.underlying23 rfl HZ.out.2.1 ?_
    | refine wpList_load_wanted rfl 23 (.tmp 7) rfl _ _ rfl _ _ HQ.out.2.2 Try.underlying23 rfl HZ.out.2.1 ?_)
  go_ret
  exact ⟨rfl, HB.out⟩
end Go.Proofs.Qxb6605721a
