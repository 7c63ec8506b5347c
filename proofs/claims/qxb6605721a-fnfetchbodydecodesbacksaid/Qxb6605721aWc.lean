/-
  THE WALK: ZZFetchAppendBody; zzDecodeFetch.
-/
import Derived.Test.Qxb6605721aWb
namespace Go.Proofs.Qxb6605721a
open Go.RowKit
open Extern.Stop (cell)

theorem Try.info28 : (Try.prog.info? 28).map (·.size) = some 41 := by kernel_rfl
theorem Try.info23 : (Try.prog.info? 23).map (·.size) = some 20 := by kernel_rfl

theorem range_new (w : World) (cs : List Value) (t : TypeId) : (w.alloc (.cells cs.toArray t)).rangeAt w.heap.size 0 cs := fun j v hv => by
  rw [cell_of_row _ _ _ _ _ _ (heap_alloc_new w _), Nat.zero_add]; simpa using hv

set_option maxHeartbeats 1000000 in
set_option maxRecDepth 100000 in
theorem zz_any (po : Option Addr) (n c base : Nat) (h : UInt8) (A T xs : List UInt8) (w : World) (hA : A.length = 20) (hT : T.length = 20) (hn : n ≤ 1048576) (hbase : base ≤ w.heap.size)
    (hown : w.ownsRow base 5 1 (.slice po n c) n (bv xs)) :
    Calls Try.prog 7 #[.agg (cell h :: (bv A ++ bv T)).toArray, .slice po n c] w fun e w' => AppPost w po n c base (xs ++ (h :: (A ++ T))) e w' := by
  have hr := range_new w (cell h :: (bv A ++ bv T)) 28
  have hsz : (Try.prog.info? 28).map (·.size) = some (cell h :: (bv A ++ bv T)).length := by rw [Try.info28]; simp [hA, hT]
  have HR : Hid _ := And.intro hr hsz
  clear hr hsz
  have HO : Hid _ := And.intro hown (And.intro hA hT)
  clear hown hA hT
  go_enter Try.func7, Try.ntmps7
  go_wp2_with (refine wpList_load_mid rfl 28 (.tmp 2) rfl _ _ rfl _ _ HR.out.1 Try.underlying28 rfl HR.out.2 ?_)
  obtain ⟨hown, hA, hT⟩ := HO.out
  refine (app_any po n c base h A T xs _ hA hT hn (by simp; omega) (hown.alloc _)).mono ?_
  rintro e w1 ⟨g, c', rfl, ho, hg, hl⟩
  have hl' : Value.ownBlock (.slice po n c) = some g ∨ w.heap.size ≤ g := by
    rcases hl with e | e
    · exact .inl e
    · exact .inr (by simp at e; omega)
  have HZ : Hid _ := And.intro ho (And.intro (grown_trans (grown_alloc (grown_refl w (Value.ownBlock (.slice po n c))) _) hg (.inl rfl)) hl')
  clear hown hA hT ho hg HO HR hl hl'
  go_wp2
  go_ret2
  exact ⟨g, c', rfl, HZ.out.1, HZ.out.2⟩

theorem range_below {w w' : World} {b o : Nat} {cs : List Value} (h : w.rangeAt b o cs) (hb : Below w.heap.size w w') (hl : b < w.heap.size) : w'.rangeAt b o cs := fun j v hv => by
  rw [hb.cell (p := ⟨b, o + j, none⟩) hl]; exact h j v hv

theorem cons_of {l : List UInt8} {n : Nat} (h : l.length = n + 1) : ∃ a r, l = a :: r ∧ r.length = n := by
  cases l with
  | nil => cases h
  | cons a r => exact ⟨a, r, rfl, Nat.succ.inj h⟩
theorem Try.built28 (ps : List (Nat × Value)) : Try.prog.built 28 ps = Instr.fill (([(0, 1), (1, 20), (21, 20)] : List (Nat × Nat)).toArray[·]?) (List.replicate 41 (.int .u8 0)).toArray ps := by kernel_rfl
theorem built_ok (h : UInt8) (A T : List UInt8) (hA : A.length = 20) (hT : T.length = 20) : Try.prog.built 28 [(0, cell h), (1, av A), (2, av T)] = some (cell h :: (bv A ++ bv T)).toArray := by
  rw [Try.built28]
  obtain ⟨a0, A0, rfl, hA0⟩ := cons_of hA
  obtain ⟨a1, A1, rfl, hA1⟩ := cons_of hA0
  obtain ⟨a2, A2, rfl, hA2⟩ := cons_of hA1
  obtain ⟨a3, A3, rfl, hA3⟩ := cons_of hA2
  obtain ⟨a4, A4, rfl, hA4⟩ := cons_of hA3
  obtain ⟨a5, A5, rfl, hA5⟩ := cons_of hA4
  obtain ⟨a6, A6, rfl, hA6⟩ := cons_of hA5
  obtain ⟨a7, A7, rfl, hA7⟩ := cons_of hA6
  obtain ⟨a8, A8, rfl, hA8⟩ := cons_of hA7
  obtain ⟨a9, A9, rfl, hA9⟩ := cons_of hA8
  obtain ⟨a10, A10, rfl, hA10⟩ := cons_of hA9
  obtain ⟨a11, A11, rfl, hA11⟩ := cons_of hA10
  obtain ⟨a12, A12, rfl, hA12⟩ := cons_of hA11
  obtain ⟨a13, A13, rfl, hA13⟩ := cons_of hA12
  obtain ⟨a14, A14, rfl, hA14⟩ := cons_of hA13
  obtain ⟨a15, A15, rfl, hA15⟩ := cons_of hA14
  obtain ⟨a16, A16, rfl, hA16⟩ := cons_of hA15
  obtain ⟨a17, A17, rfl, hA17⟩ := cons_of hA16
  obtain ⟨a18, A18, rfl, hA18⟩ := cons_of hA17
  obtain ⟨a19, A19, rfl, hA19⟩ := cons_of hA18
  obtain rfl := List.length_eq_zero_iff.1 hA19
  obtain ⟨t0, T0, rfl, hT0⟩ := cons_of hT
  obtain ⟨t1, T1, rfl, hT1⟩ := cons_of hT0
  obtain ⟨t2, T2, rfl, hT2⟩ := cons_of hT1
  obtain ⟨t3, T3, rfl, hT3⟩ := cons_of hT2
  obtain ⟨t4, T4, rfl, hT4⟩ := cons_of hT3
  obtain ⟨t5, T5, rfl, hT5⟩ := cons_of hT4
  obtain ⟨t6, T6, rfl, hT6⟩ := cons_of hT5
  obtain ⟨t7, T7, rfl, hT7⟩ := cons_of hT6
  obtain ⟨t8, T8, rfl, hT8⟩ := cons_of hT7
  obtain ⟨t9, T9, rfl, hT9⟩ := cons_of hT8
  obtain ⟨t10, T10, rfl, hT10⟩ := cons_of hT9
  obtain ⟨t11, T11, rfl, hT11⟩ := cons_of hT10
  obtain ⟨t12, T12, rfl, hT12⟩ := cons_of hT11
  obtain ⟨t13, T13, rfl, hT13⟩ := cons_of hT12
  obtain ⟨t14, T14, rfl, hT14⟩ := cons_of hT13
  obtain ⟨t15, T15, rfl, hT15⟩ := cons_of hT14
  obtain ⟨t16, T16, rfl, hT16⟩ := cons_of hT15
  obtain ⟨t17, T17, rfl, hT17⟩ := cons_of hT16
  obtain ⟨t18, T18, rfl, hT18⟩ := cons_of hT17
  obtain ⟨t19, T19, rfl, hT19⟩ := cons_of hT18
  obtain rfl := List.length_eq_zero_iff.1 hT19
  kernel_rfl
/-- A struct made of its parts, its cells known. -/
theorem wpList_made {P : Program} {ops : Array Oper} {rest : List Oper} {o : Oper} {a : Act} {w : World} {Q : Exit → Act → World → Prop} (hg : o.guard = none) (t : TypeId) (parts : Array (Nat × Operand)) (ho : o.op = .build t parts)
    (ps : List (Nat × Value)) (cs : Array Value) (hp : (parts.map fun (i, x) => (i, a.eval x)).toList = ps) (hb : P.built t ps = some cs)
    (h : wpList P ops Q rest (a.put o.dst (.agg cs)) w) : wpList P ops Q (o :: rest) a w :=
  wpList_build hg t parts ho (by rw [hp, hb]; rfl) (by rw [hp, hb]; exact h)
end Go.Proofs.Qxb6605721a
