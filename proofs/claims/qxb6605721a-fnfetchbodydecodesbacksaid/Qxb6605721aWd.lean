/-
  THE WALK OF FnFetchBodyInjective.
-/
import Derived.Test.Qxb6605721aWc
namespace Go.Proofs.Qxb6605721a
open Go.RowKit
open Extern.Stop (cell)

theorem hidI {p : Prop} (h : p) : Hid p := h

/-- A load of a row at a guarded place. -/
theorem wpList_load_wanted {P : Program} {ops : Array Oper} {rest : List Oper} {op : Oper} {a : Act} {w : World} {Q : Exit → Act → World → Prop} (hw : Region.wanted op (yielded ops a.tmps) = true) (ty : TypeId) (x : Operand) (ho : op.op = .load ty x)
    (b o : Nat) (hx : a.eval x = .pointer (some ⟨b, o, none⟩)) (cs : List Value) (d : TypeDesc) (hc : w.rangeAt b o cs)
    (hu : P.underlying ty = some d) (hd : d.isRow = true) (hi : (P.info? ty).map (·.size) = some cs.length)
    (h : wpList P ops Q rest (a.put op.dst (.agg cs.toArray)) w) : wpList P ops Q (op :: rest) a w :=
  wpList_step fun _ hK => by rw [if_pos hw]; exact wp_load_mid ty x ho b o hx cs d hc hu hd hi (hK _ _ h)

theorem Try.size5 (w : World) : (sizeOf 5).run Try.prog w = .ok 1 w := by kernel_rfl
theorem eql_av (A A' : List UInt8) (hA : A.length = 20) (hA' : A'.length = 20) (w : World) : (binOp .eql 23 (.agg (bv A).toArray) (.agg (bv A').toArray)).run Try.prog w = .ok (.bool (A == A')) w :=
  run_eql_bytes w 23 5 20 Try.underlying23 Try.underlying5 Try.size5 A A' hA hA'

theorem len41 {xs A T : List UInt8} {h : UInt8} {n : Nat} (hx : xs.length = n) (hA : A.length = 20) (hT : T.length = 20) : (xs ++ (h :: (A ++ T))).length = n + 41 := by
  simp only [List.length_append, List.length_cons]; omega

/-- The four boxes of the law's arrays. -/
def Four (w : World) (B : Nat) (A T A' T' : List UInt8) : Prop :=
  B + 3 < w.heap.size ∧ w.rangeAt B 0 (bv A) ∧ w.rangeAt (B + 1) 0 (bv T) ∧ w.rangeAt (B + 2) 0 (bv A') ∧ w.rangeAt (B + 3) 0 (bv T')
theorem Four.below {w w' : World} {B : Nat} {A T A' T' : List UInt8} (h : Four w B A T A' T') (hb : Below w.heap.size w w') : Four w' B A T A' T' := by
  obtain ⟨h0, h1, h2, h3, h4⟩ := h
  exact ⟨Nat.lt_of_lt_of_le h0 hb.size, range_below h1 hb (by omega), range_below h2 hb (by omega), range_below h3 hb (by omega), range_below h4 hb (by omega)⟩
theorem Four.far {w w' : World} {B : Nat} {A T A' T' : List UInt8} {r : Option Nat} (h : Four w B A T A' T') (hg : w.grownBy w' r) (hr : ∀ k, r = some k → B + 3 < k) : Four w' B A T A' T' := by
  obtain ⟨h0, h1, h2, h3, h4⟩ := h
  exact ⟨Nat.lt_of_lt_of_le h0 hg.size, range_far h1 hg (by omega) (fun e => by have := hr _ e.symm; omega), range_far h2 hg (by omega) (fun e => by have := hr _ e.symm; omega), range_far h3 hg (by omega) (fun e => by have := hr _ e.symm; omega), range_far h4 hg (by omega) (fun e => by have := hr _ e.symm; omega)⟩

set_option maxHeartbeats 1000000 in
set_option maxRecDepth 100000 in
theorem inj_any (po : Option Addr) (n c : Nat) (h : UInt8) (A T : List UInt8) (h' : UInt8) (A' T' xs : List UInt8) (w : World) (hA : A.length = 20) (hT : T.length = 20) (hA' : A'.length = 20) (hT' : T'.length = 20) (hn : n ≤ maxLen) (hx : xs.length = n) (hs : SrcIn w po xs) (hpo : po = none → n = 0) :
    Calls Try.prog 4 #[.slice po n c, .int .u8 (h.toNat : Int), av A, av T, .int .u8 (h'.toNat : Int), av A', av T'] w fun e w' => e = .returned (.bool true) ∧ Below w.heap.size w w' := by
  have b1 := range_new w (bv A) 23
  have b2 := range_new (w.alloc (.cells (bv A).toArray 23)) (bv T) 23
  have b3 := range_new ((w.alloc (.cells (bv A).toArray 23)).alloc (.cells (bv T).toArray 23)) (bv A') 23
  have b4 := range_new (((w.alloc (.cells (bv A).toArray 23)).alloc (.cells (bv T).toArray 23)).alloc (.cells (bv A').toArray 23)) (bv T') 23
  have c1 := World.rangeAt_alloc (World.rangeAt_alloc (World.rangeAt_alloc b1 (.cells (bv T).toArray 23)) (.cells (bv A').toArray 23)) (.cells (bv T').toArray 23)
  have c2 := World.rangeAt_alloc (World.rangeAt_alloc b2 (.cells (bv A').toArray 23)) (.cells (bv T').toArray 23)
  have c3 := World.rangeAt_alloc b3 (.cells (bv T').toArray 23)
  have z1 : (Try.prog.info? 23).map (·.size) = some (bv A).length := by rw [Try.info23]; simp [hA]
  have z2 : (Try.prog.info? 23).map (·.size) = some (bv T).length := by rw [Try.info23]; simp [hT]
  have z3 : (Try.prog.info? 23).map (·.size) = some (bv A').length := by rw [Try.info23]; simp [hA']
  have z4 : (Try.prog.info? 23).map (·.size) = some (bv T').length := by rw [Try.info23]; simp [hT']
  simp only [World.size_alloc, Nat.add_assoc, Nat.reduceAdd] at c2 c3 b4
  have HZ := hidI (And.intro z1 (And.intro z2 (And.intro z3 z4)))
  have HS := hidI (And.intro hs (And.intro hpo (And.intro hx (And.intro hA (And.intro hT (And.intro hA' hT'))))))
  have HQ : Hid (Four _ w.heap.size A T A' T') := ⟨by simp, c1, c2, c3, b4⟩
  have HB := hidI (((((Below.refl w.heap.size w).alloc (Nat.le_refl _) (.cells (bv A).toArray 23)).alloc (by simp) (.cells (bv T).toArray 23)).alloc (by simp; omega) (.cells (bv A').toArray 23)).alloc (by simp; omega) (.cells (bv T').toArray 23))
  clear b1 b2 b3 b4 c1 c2 c3 z1 z2 z3 z4 hs hpo hx hA hT hA' hT'
  have hm := hn
  unfold maxLen at hm
  go_enter Try.func4, Try.ntmps4
  go_wp2_with (first
    | refine wpList_load_mid rfl 23 (.tmp 9) rfl _ _ rfl _ _ HQ.out.2.1 Try.underlying23 rfl HZ.out.1 ?_
    | refine wpList_load_mid rfl 23 (.tmp 10) rfl _ _ rfl _ _ HQ.out.2.2.1 Try.underlying23 rfl HZ.out.2.1 ?_
    | refine wpList_load_mid rfl 23 (.tmp 12) rfl _ _ rfl _ _ HQ.out.2.2.2.1 Try.underlying23 rfl HZ.out.2.2.1 ?_
    | refine wpList_load_mid rfl 23 (.tmp 13) rfl _ _ rfl _ _ HQ.out.2.2.2.2 Try.underlying23 rfl HZ.out.2.2.2 ?_)
  refine (bytes10 po n c h A T h' A' T' hn _).mono ?_
  rintro e w1 ⟨⟨r, rfl⟩, hb1⟩
  have HQ := hidI (HQ.out.below hb1)
  have HB := hidI (HB.out.trans (hb1.mono HB.out.size))
  have q0 := HQ.out.1
  clear hb1
  cases r with
  | false =>
    go_wp2
    go_ret
    exact ⟨rfl, HB.out⟩
  | true =>
  by_cases h20 : n ≤ 1048576
  case neg =>
    go_wp2
    go_ret
    exact ⟨rfl, HB.out⟩
  clear hn hm
  go_wp2_with fail
  refine (clone_any po n c xs _ HS.out.2.2.1 h20 (HS.out.1.below HB.out) HS.out.2.1).mono ?_
  rintro e w2 ⟨po1, c1, rfl, o1, hb1⟩
  have H1 := hidI (o1)
  have HQ := hidI (HQ.out.below hb1)
  have HB := hidI (HB.out.trans (hb1.mono HB.out.size))
  have q1 := hb1.size
  clear hb1 o1
  go_wp2_with fail
  refine (clone_any po1 n c1 xs _ HS.out.2.2.1 h20 (own_src H1.out) (own_nil H1.out)).mono ?_
  rintro e w3 ⟨po2, c2, rfl, o2, hb2⟩
  have H1 := hidI (own_below H1.out hb2)
  have H2 := hidI (o2)
  have HQ := hidI (HQ.out.below hb2)
  have HB := hidI (HB.out.trans (hb2.mono HB.out.size))
  have q2 := hb2.size
  clear hb2 o2
  go_wp2_with fail
  refine (clone_any po1 n c1 xs _ HS.out.2.2.1 h20 (own_src H1.out) (own_nil H1.out)).mono ?_
  rintro e w4 ⟨po3, c3, rfl, o3, hb3⟩
  have l2 := H2.out.lt
  have H2 := hidI (own_below H2.out hb3)
  have HL3 := hidI o3.lt
  have H3 := hidI (o3)
  have HQ := hidI (HQ.out.below hb3)
  have HB := hidI (HB.out.trans (hb3.mono HB.out.size))
  have q3 := hb3.size
  have HL2 := hidI (l2)
  clear hb3 o3 H1 l2
  go_wp2_with (first
    | refine wpList_load_mid rfl 23 (.tmp 9) rfl _ _ rfl _ _ HQ.out.2.1 Try.underlying23 rfl HZ.out.1 ?_
    | refine wpList_load_mid rfl 23 (.tmp 10) rfl _ _ rfl _ _ HQ.out.2.2.1 Try.underlying23 rfl HZ.out.2.1 ?_
    | refine wpList_made rfl 28 _ rfl [(0, cell h), (1, av A), (2, av T)] _ (by first | rfl | kernel_rfl | simp [Act.eval]) (built_ok h A T HS.out.2.2.2.1 HS.out.2.2.2.2.1) ?_)
  refine (zz_any po2 n c2 w2.heap.size h A T xs _ HS.out.2.2.2.1 HS.out.2.2.2.2.1 h20 (by omega) H2.out).mono ?_
  rintro e w5 ⟨g5, c5, rfl, o5, gr5, loc5⟩
  have HQ := hidI (HQ.out.far gr5 (fun k hk => by have := HL2.out k hk; omega))
  have H3 := hidI (own_far H3.out gr5 (fun k hk e => by have a := HL3.out k hk; have b := HL2.out k e.symm; omega))
  have HB := hidI (HB.out.grown gr5 HB.out.size (fun k hk => by have := HL2.out k hk; omega))
  have H5 := hidI o5
  have q4 := gr5.size
  have HL5 := hidI (show w4.heap.size ≤ g5 ∨ g5 < w3.heap.size from loc5.elim (fun e => .inr (HL2.out _ e).2) .inl)
  clear gr5 o5 loc5 H2
  go_wp2_with (first
    | refine wpList_load_mid rfl 23 (.tmp 12) rfl _ _ rfl _ _ HQ.out.2.2.2.1 Try.underlying23 rfl HZ.out.2.2.1 ?_
    | refine wpList_load_mid rfl 23 (.tmp 13) rfl _ _ rfl _ _ HQ.out.2.2.2.2 Try.underlying23 rfl HZ.out.2.2.2 ?_
    | refine wpList_made rfl 28 _ rfl [(0, cell h'), (1, av A'), (2, av T')] _ (by first | rfl | kernel_rfl | simp [Act.eval]) (built_ok h' A' T' HS.out.2.2.2.2.2.1 HS.out.2.2.2.2.2.2) ?_)
  refine (zz_any po3 n c3 w3.heap.size h' A' T' xs _ HS.out.2.2.2.2.2.1 HS.out.2.2.2.2.2.2 h20 (by omega) H3.out).mono ?_
  rintro e w6 ⟨g6, c6, rfl, o6, gr6, loc6⟩
  have HQ := hidI (HQ.out.far gr6 (fun k hk => by have := HL3.out k hk; omega))
  have H5 := hidI (own_far H5.out gr6 (fun k hk e => by
    have a := HL3.out k e.symm
    have b : g5 = k := by simpa [Value.ownBlock] using hk
    rcases HL5.out with l | l <;> omega))
  have HB := hidI (HB.out.grown gr6 HB.out.size (fun k hk => by have := HL3.out k hk; omega))
  have H6 := hidI o6
  clear gr6 o6 loc6 H3
  have hEq : decide (xs ++ (h :: (A ++ T)) = xs ++ (h' :: (A' ++ T'))) = (decide (h = h') && (decide (A = A') && decide (T = T'))) := by
    rw [Bool.eq_iff_iff]
    simp only [decide_eq_true_eq, Bool.and_eq_true, List.append_cancel_left_eq, List.cons.injEq]
    constructor
    · rintro ⟨e1, e2⟩
      have := List.append_inj e2 (HS.out.2.2.2.1.trans HS.out.2.2.2.2.2.1.symm)
      exact ⟨e1, this.1, this.2⟩
    · rintro ⟨e1, e2, e3⟩; exact ⟨e1, by rw [e2, e3]⟩
  have HD := hidI hEq
  clear hEq
  by_cases eh : h = h'
  · have eh1 : ((h.toNat : Int) == (h'.toNat : Int)) = true := by rw [eh]; simp
    have ea0 := eql_av A A' HS.out.2.2.2.1 HS.out.2.2.2.2.2.1
    by_cases eA : A = A'
    · have ea : ∀ w, (binOp .eql 23 (.agg (bv A).toArray) (.agg (bv A').toArray)).run Try.prog w = .ok (.bool true) w := fun w => by rw [ea0 w, beq_iff_eq.2 eA]
      have et0 := eql_av T T' HS.out.2.2.2.2.1 HS.out.2.2.2.2.2.2
      by_cases eT : T = T'
      · have et : ∀ w, (binOp .eql 23 (.agg (bv T).toArray) (.agg (bv T').toArray)).run Try.prog w = .ok (.bool true) w := fun w => by rw [et0 w, beq_iff_eq.2 eT]
        have HD : Hid (decide (xs ++ (h :: (A ++ T)) = xs ++ (h' :: (A' ++ T'))) = true) := hidI (HD.out.trans (by simp [eh, eA, eT]))
        clear ea0 et0 eh eA eT
        go_wp2_with (first
          | refine wpList_load_wanted rfl 23 (.tmp 9) rfl _ _ rfl _ _ HQ.out.2.1 Try.underlying23 rfl HZ.out.1 ?_
          | refine wpList_load_wanted rfl 23 (.tmp 12) rfl _ _ rfl _ _ HQ.out.2.2.2.1 Try.underlying23 rfl HZ.out.2.2.1 ?_
          | refine wpList_load_wanted rfl 23 (.tmp 10) rfl _ _ rfl _ _ HQ.out.2.2.1 Try.underlying23 rfl HZ.out.2.1 ?_
          | refine wpList_load_wanted rfl 23 (.tmp 13) rfl _ _ rfl _ _ HQ.out.2.2.2.2 Try.underlying23 rfl HZ.out.2.2.2 ?_)
        refine (equal_any (some ⟨g5, 0, none⟩) (some ⟨g6, 0, none⟩) (n + 41) (n + 41) c5 c6 (xs ++ (h :: (A ++ T))) (xs ++ (h' :: (A' ++ T'))) _ (len41 HS.out.2.2.1 HS.out.2.2.2.1 HS.out.2.2.2.2.1) (len41 HS.out.2.2.1 HS.out.2.2.2.2.2.1 HS.out.2.2.2.2.2.2) (by omega) (by omega) (own_src H5.out) (own_src H6.out)).mono ?_
        rintro e w7 ⟨rfl, hb7⟩
        have HB := hidI (HB.out.trans (hb7.mono HB.out.size))
        rw [HD.out]
        clear hb7
        go_wp2
        go_ret
        exact ⟨rfl, HB.out⟩
      · have et : ∀ w, (binOp .eql 23 (.agg (bv T).toArray) (.agg (bv T').toArray)).run Try.prog w = .ok (.bool false) w := fun w => by rw [et0 w, beq_eq_false_iff_ne.2 eT]
        have HD : Hid (decide (xs ++ (h :: (A ++ T)) = xs ++ (h' :: (A' ++ T'))) = false) := hidI (HD.out.trans (by simp [eh, eA, eT]))
        clear ea0 et0 eh eA eT
        go_wp2_with (first
          | refine wpList_load_wanted rfl 23 (.tmp 9) rfl _ _ rfl _ _ HQ.out.2.1 Try.underlying23 rfl HZ.out.1 ?_
          | refine wpList_load_wanted rfl 23 (.tmp 12) rfl _ _ rfl _ _ HQ.out.2.2.2.1 Try.underlying23 rfl HZ.out.2.2.1 ?_
          | refine wpList_load_wanted rfl 23 (.tmp 10) rfl _ _ rfl _ _ HQ.out.2.2.1 Try.underlying23 rfl HZ.out.2.1 ?_
          | refine wpList_load_wanted rfl 23 (.tmp 13) rfl _ _ rfl _ _ HQ.out.2.2.2.2 Try.underlying23 rfl HZ.out.2.2.2 ?_)
        refine (equal_any (some ⟨g5, 0, none⟩) (some ⟨g6, 0, none⟩) (n + 41) (n + 41) c5 c6 (xs ++ (h :: (A ++ T))) (xs ++ (h' :: (A' ++ T'))) _ (len41 HS.out.2.2.1 HS.out.2.2.2.1 HS.out.2.2.2.2.1) (len41 HS.out.2.2.1 HS.out.2.2.2.2.2.1 HS.out.2.2.2.2.2.2) (by omega) (by omega) (own_src H5.out) (own_src H6.out)).mono ?_
        rintro e w7 ⟨rfl, hb7⟩
        have HB := hidI (HB.out.trans (hb7.mono HB.out.size))
        rw [HD.out]
        clear hb7
        go_wp2
        go_ret
        exact ⟨rfl, HB.out⟩
    · have ea : ∀ w, (binOp .eql 23 (.agg (bv A).toArray) (.agg (bv A').toArray)).run Try.prog w = .ok (.bool false) w := fun w => by rw [ea0 w, beq_eq_false_iff_ne.2 eA]
      have HD : Hid (decide (xs ++ (h :: (A ++ T)) = xs ++ (h' :: (A' ++ T'))) = false) := hidI (HD.out.trans (by simp [eh, eA]))
      clear ea0 eh eA
      go_wp2_with (first
        | refine wpList_load_wanted rfl 23 (.tmp 9) rfl _ _ rfl _ _ HQ.out.2.1 Try.underlying23 rfl HZ.out.1 ?_
        | refine wpList_load_wanted rfl 23 (.tmp 12) rfl _ _ rfl _ _ HQ.out.2.2.2.1 Try.underlying23 rfl HZ.out.2.2.1 ?_
        | refine wpList_load_wanted rfl 23 (.tmp 10) rfl _ _ rfl _ _ HQ.out.2.2.1 Try.underlying23 rfl HZ.out.2.1 ?_
        | refine wpList_load_wanted rfl 23 (.tmp 13) rfl _ _ rfl _ _ HQ.out.2.2.2.2 Try.underlying23 rfl HZ.out.2.2.2 ?_)
      refine (equal_any (some ⟨g5, 0, none⟩) (some ⟨g6, 0, none⟩) (n + 41) (n + 41) c5 c6 (xs ++ (h :: (A ++ T))) (xs ++ (h' :: (A' ++ T'))) _ (len41 HS.out.2.2.1 HS.out.2.2.2.1 HS.out.2.2.2.2.1) (len41 HS.out.2.2.1 HS.out.2.2.2.2.2.1 HS.out.2.2.2.2.2.2) (by omega) (by omega) (own_src H5.out) (own_src H6.out)).mono ?_
      rintro e w7 ⟨rfl, hb7⟩
      have HB := hidI (HB.out.trans (hb7.mono HB.out.size))
      rw [HD.out]
      clear hb7
      go_wp2
      go_ret
      exact ⟨rfl, HB.out⟩
  · have eh1 : ((h.toNat : Int) == (h'.toNat : Int)) = false := by
      simp only [beq_eq_false_iff_ne, ne_eq, Int.ofNat_inj]
      intro e; exact eh (UInt8.toNat_inj.1 e)
    have HD : Hid (decide (xs ++ (h :: (A ++ T)) = xs ++ (h' :: (A' ++ T'))) = false) := hidI (HD.out.trans (by simp [eh]))
    clear eh
    go_wp2_with fail
    refine (equal_any (some ⟨g5, 0, none⟩) (some ⟨g6, 0, none⟩) (n + 41) (n + 41) c5 c6 (xs ++ (h :: (A ++ T))) (xs ++ (h' :: (A' ++ T'))) _ (len41 HS.out.2.2.1 HS.out.2.2.2.1 HS.out.2.2.2.2.1) (len41 HS.out.2.2.1 HS.out.2.2.2.2.2.1 HS.out.2.2.2.2.2.2) (by omega) (by omega) (own_src H5.out) (own_src H6.out)).mono ?_
    rintro e w7 ⟨rfl, hb7⟩
    have HB := hidI (HB.out.trans (hb7.mono HB.out.size))
    rw [HD.out]
    clear hb7
    go_wp2
    go_ret
    exact ⟨rfl, HB.out⟩
end Go.Proofs.Qxb6605721a
