/-
  THE WALKS: zzBytes, zzCloneBytes, zzBytesEqual.
-/
import Derived.Test.Qxb6605721aRows
import Derived.WalkKit
import Derived.WalkSpells
import Derived.WalkLawsBesides
import Derived.WalkSmall
import Derived.Carry
import Derived.Stop.BytesEq
import Derived.Deep.MidRow
import Derived.Deep.WholeRow
import Derived.Deep.QuietTactic
import Derived.BigQuiet
import Derived.Maps.AppendAt
namespace Go.Proofs.Qxb6605721a
open Go.RowKit
open Extern.Stop (cell)

/-- Bytes as cells. -/
abbrev bv (xs : List UInt8) : List Value := xs.map cell
/-- An array by value. -/
abbrev av (xs : List UInt8) : Value := .agg (bv xs).toArray


set_option maxHeartbeats 400000 in
set_option maxRecDepth 100000 in
theorem bytes5 (po : Option Addr) (n c : Nat) (h : UInt8) (A T : List UInt8) (hn : n ≤ maxLen) (w : World) :
    Calls Try.prog 5 #[.slice po n c, cell h, av A, av T] w fun e w' => (∃ b : Bool, e = .returned (.bool b)) ∧ Below w.heap.size w w' := by
  unfold maxLen at hn
  by_cases h1 : n ≤ 1048576
  all_goals
    go_enter Try.func5, Try.ntmps5
    go_wp2
    go_ret
    exact ⟨⟨_, rfl⟩, ((Below.refl _ _).alloc (Nat.le_refl _) _).alloc (by simp) _⟩

set_option maxHeartbeats 400000 in
set_option maxRecDepth 100000 in
theorem bytes10 (po : Option Addr) (n c : Nat) (h : UInt8) (A T : List UInt8) (h' : UInt8) (A' T' : List UInt8) (hn : n ≤ maxLen) (w : World) :
    Calls Try.prog 10 #[.slice po n c, cell h, av A, av T, cell h', av A', av T'] w fun e w' => (∃ b : Bool, e = .returned (.bool b)) ∧ Below w.heap.size w w' := by
  unfold maxLen at hn
  by_cases h1 : n ≤ 1048576
  all_goals
    go_enter Try.func10, Try.ntmps10
    go_wp2
    go_ret
    exact ⟨⟨_, rfl⟩, ((((Below.refl _ _).alloc (Nat.le_refl _) _).alloc (by simp) _).alloc (by simp [Nat.add_assoc]) _).alloc (by simp [Nat.add_assoc]) _⟩

theorem below_drewN {B : Nat} {a w : World} (h : Below B a w) (n : Nat) : Below B a (w.drewN n) := ⟨h.os, h.tape, h.output, h.size, h.block⟩

/-- The bytes that a slice shows. -/
def SrcIn (w : World) (po : Option Addr) (xs : List UInt8) : Prop :=
  ∀ k (hk : k < xs.length), ∃ b off, po = some ⟨b, off, none⟩ ∧ b < w.heap.size ∧ w.cell? ⟨b, off + k, none⟩ = some (cell xs[k])
theorem SrcIn.below {w w' : World} {po : Option Addr} {xs : List UInt8} (h : SrcIn w po xs) (hb : Below w.heap.size w w') : SrcIn w' po xs := fun k hk => by
  obtain ⟨b, off, e, hl, hc⟩ := h k hk
  exact ⟨b, off, e, Nat.lt_of_lt_of_le hl hb.size, (hb.cell (p := ⟨b, off + k, none⟩) hl).trans hc⟩

theorem Try.info5 : (Try.prog.info? 5).map (fun i => (i.zero, i.size, i.bytes)) = some (some (.int .u8 0), 1, 1) := by kernel_rfl

/-- Behind zzCloneBytes. -/
def ClonePost (w : World) (n : Nat) (xs : List UInt8) (e : Ending) (w' : World) : Prop :=
  ∃ po c, e = .returned (.slice po n c) ∧ w'.ownsRow w.heap.size 5 1 (.slice po n c) n (bv xs) ∧ Below w.heap.size w w'

theorem own_src {w : World} {base : Nat} {po : Option Addr} {n c : Nat} {xs : List UInt8} (h : w.ownsRow base 5 1 (.slice po n c) n (bv xs)) : SrcIn w po xs := fun k hk => by
  rcases h.2 with ⟨e, rfl⟩ | ⟨g, cap, cur, e, hb, hg, hnc, hcm, hcs, htake⟩
  · have := h.1; simp at this; simp [this] at hk
  · have hl := h.1
    simp at hl
    cases e
    refine ⟨g, 0, rfl, lt_of_block hg, ?_⟩
    rw [cell_of_row _ _ _ _ _ _ hg, Nat.zero_add]
    have : (cur.toList.take (n * 1))[k]? = some (cell xs[k]) := by rw [htake, List.getElem?_map, List.getElem?_eq_getElem hk]; rfl
    rw [List.getElem?_take] at this
    rw [if_pos (by omega)] at this
    simpa using this

set_option maxHeartbeats 400000 in
set_option maxRecDepth 100000 in
theorem clone_any (po : Option Addr) (n c : Nat) (xs : List UInt8) (w : World) (hx : xs.length = n) (hn : n ≤ 1048576) (hr : SrcIn w po xs) (hpo : po = none → n = 0) :
    Calls Try.prog 6 #[.slice po n c] w fun e w' => ClonePost w n xs e w' := by
  cases po with
  | none =>
    have hn0 : Hid _ := hpo rfl
    clear hpo
    have hnil : ∀ w : World, (binOp .eql 22 (.slice none n c) (.slice none 0 0)).run Try.prog w = .ok (.bool true) w := fun w => Lib.run_eql_slice_nil (P := Try.prog) w 22 5 none n c 0 0 Try.underlying22
    go_enter Try.func6, Try.ntmps6
    go_wp2
    go_ret
    have hn0 := hn0.out
    subst hn0
    exact ⟨none, 0, rfl, ⟨by simp [hx], Or.inl ⟨rfl, rfl⟩⟩, Below.refl _ _⟩
  | some pa =>
    have hnil : ∀ w : World, (binOp .eql 22 (.slice (some pa) n c) (.slice none 0 0)).run Try.prog w = .ok (.bool false) w := fun w => Lib.run_eql_slice_nil (P := Try.prog) w 22 5 (some pa) n c 0 0 Try.underlying22
    obtain ⟨i0, hi, hz0, hz1, hz2⟩ := info_parts Try.info5
    have HX : Hid _ := hx
    clear hx hpo
    go_enter Try.func6, Try.ntmps6
    go_wp2_with (at_make; refine wpList_make_full _ rfl (.tmp 8) (.tmp 8) 22 rfl w.heap.size 5 i0 (.int .u8 0) 1 Try.underlying22 hi hz0 hz1 .i64 .i64 _ _ n rfl rfl rfl rfl (by rw [hz2]; omega) (by unfold maxLen; omega) (Nat.le_refl _) ?_; intro w1 hown hgrow)
    go_loopw [4] (fun i wr => ∃ (k : Nat) (ys : List Value), k ≤ n ∧ i = .int .i64 k ∧ ys.take k = bv (xs.take k) ∧ wr.ownsRow w.heap.size 5 1 (.slice (some ⟨w.heap.size, 0, none⟩) n n) n ys ∧ Below w.heap.size w wr) (fun i _ => n - (intOf i).toNat)
    case atStart => exact ⟨0, _, Nat.zero_le _, rfl, by simp, hown, (Below.refl _ _).grown hgrow (Nat.le_refl _) (fun k hk => by cases hk)⟩
    case round =>
      obtain ⟨k, ys, hk, rfl, hy, ho, hb⟩ := hrel
      by_cases hlt : k < n
      · obtain ⟨b, off, e1, hlb, hc⟩ := hr k (by rw [HX.out]; exact hlt)
        cases e1
        have hxk : k < xs.length := by rw [HX.out]; exact hlt
        have hc' : wr.cell? ⟨b, off + k, none⟩ = some (.int .u8 (xs[k].toNat : Int)) := (hb.cell (p := ⟨b, off + k, none⟩) hlb).trans hc
        have hl := ho.1
        obtain ⟨u, hu⟩ : ∃ u, wr.cell? ⟨w.heap.size, k, none⟩ = some u := by
          rw [ho.cellAt k (by omega)]
          exact ⟨ys[k]'(by omega), List.getElem?_eq_getElem (by omega)⟩
        have hfz := ho.frozenAt k
        have hst := ho.stored k (.int .u8 (xs[k].toNat : Int))
        have hyn : (ys.set k (.int .u8 (xs[k].toNat : Int))).take (k + 1) = bv (xs.take (k + 1)) := by
          rw [List.take_succ_eq_append_getElem (by simp; omega), List.take_succ_eq_append_getElem hxk, List.take_set_of_le (Nat.le_refl _), hy, List.getElem_set_self]
          unfold bv
          rw [List.map_append]; rfl
        have HS : Hid _ := And.intro hst hyn
        clear hst hl hown hgrow hyn hy hc
        go_wp2
        go_roundw
        case rel => exact ⟨k + 1, _, by omega, by go_num, HS.out.2, HS.out.1.1, hb.setCell (Nat.le_refl _) _⟩
        case measure => simp [intOf]; omega
      · have HB : Hid _ := And.intro hy (And.intro ho hb)
        clear hy ho
        go_wp2
        go_ret
        obtain ⟨hy, ho, hb⟩ := HB.out
        have e : ys = bv xs := by
          have h1 := ho.1
          rw [List.take_of_length_le (by omega), List.take_of_length_le (by rw [HX.out]; omega)] at hy
          exact hy
        exact ⟨_, _, rfl, e ▸ ho, hb⟩

set_option maxHeartbeats 400000 in
set_option maxRecDepth 100000 in
theorem equal_any (po qo : Option Addr) (n m c d : Nat) (xs ys : List UInt8) (w : World) (hx : xs.length = n) (hy : ys.length = m) (hn : n ≤ 2000000) (hm : m ≤ 2000000) (hp : SrcIn w po xs) (hq : SrcIn w qo ys) :
    Calls Try.prog 8 #[.slice po n c, .slice qo m d] w fun e w' => e = .returned (.bool (decide (xs = ys))) ∧ Below w.heap.size w w' := by
  by_cases hnm : n = m
  · subst hnm
    have HX : Hid _ := And.intro hx hy
    clear hx hy
    go_enter Try.func8, Try.ntmps8
    go_wp2
    go_loopw [5] (fun i wr => ∃ k : Nat, k ≤ n ∧ i = .int .i64 k ∧ xs.take k = ys.take k ∧ Below w.heap.size w wr) (fun i _ => n - (intOf i).toNat)
    case atStart => exact ⟨0, Nat.zero_le _, rfl, by simp, Below.refl _ _⟩
    case round =>
      obtain ⟨k, hk, rfl, he, hb⟩ := hrel
      by_cases hlt : k < n
      · have hxk : k < xs.length := by rw [HX.out.1]; exact hlt
        have hyk : k < ys.length := by rw [HX.out.2]; exact hlt
        obtain ⟨b, o, e1, hlb, hc⟩ := (hp.below hb) k hxk
        obtain ⟨b', o', e2, hlb', hc'⟩ := (hq.below hb) k hyk
        cases e1
        cases e2
        have hc1 : wr.cell? ⟨b, o + k, none⟩ = some (.int .u8 (xs[k].toNat : Int)) := hc
        have hc2 : wr.cell? ⟨b', o' + k, none⟩ = some (.int .u8 (ys[k].toNat : Int)) := hc'
        have HE : Hid _ := And.intro he hb
        clear he hb hc hc'
        by_cases hxy : xs[k] = ys[k]
        · have hne : ((xs[k].toNat : Int) != (ys[k].toNat : Int)) = false := by rw [hxy]; simp
          have HQ : Hid _ := hxy
          clear hxy
          go_wp2
          go_quiet (fail)
          go_wp2
          go_roundw
          case rel => exact ⟨k + 1, by omega, by go_num, by rw [List.take_succ_eq_append_getElem hxk, List.take_succ_eq_append_getElem hyk, HE.out.1, HQ.out], below_drewN HE.out.2 _⟩
          case measure => simp [intOf]; omega
        · have hne : ((xs[k].toNat : Int) != (ys[k].toNat : Int)) = true := by
            simp only [bne_iff_ne, ne_eq, Int.ofNat_inj]
            intro e; exact hxy (UInt8.toNat_inj.1 e)
          have hd : decide (xs = ys) = false := by
            simp only [decide_eq_false_iff_not]
            intro e; subst e; exact hxy rfl
          have HQ : Hid _ := hd
          clear hxy hd
          go_wp2
          go_quiet (fail)
          go_wp2
          go_ret
          exact ⟨(congrArg (fun b => Ending.returned (.bool b)) HQ.out).symm, below_drewN HE.out.2 _⟩
      · have hd : decide (xs = ys) = true := by
          have h1 := HX.out.1
          have h2 := HX.out.2
          rw [List.take_of_length_le (by omega), List.take_of_length_le (by omega)] at he
          simp [he]
        have HQ : Hid _ := hd
        clear hd he
        go_wp2
        go_ret
        exact ⟨(congrArg (fun b => Ending.returned (.bool b)) HQ.out).symm, hb⟩
  · have hd : decide (xs = ys) = false := by
      simp only [decide_eq_false_iff_not]
      intro e; subst e; omega
    have HQ : Hid _ := hd
    clear hd hx hy
    have hne : ((n : Int) != (m : Int)) = true := by simp only [bne_iff_ne, ne_eq, Int.ofNat_inj]; exact hnm
    go_enter Try.func8, Try.ntmps8
    go_wp2
    go_ret
    exact ⟨(congrArg (fun b => Ending.returned (.bool b)) HQ.out).symm, Below.refl _ _⟩
end Go.Proofs.Qxb6605721a
