import Derived.Test.Qxb6614540aWb
namespace Go.Proofs.Qxb6614540a
open Go.RowKit

theorem Try.info73 : (Try.prog.info? 73).map (fun i => (i.zero, i.size, i.bytes)) = some (some (.agg #[.int .u64 0, .string ByteArray.empty, .int .u8 0]), 3, 32) := by kernel_rfl

theorem box3 {w : World} {b : Nat} {c0 c1 c2 : Value} {t : TypeId} (h : w.heap[b]? = some (.cells #[c0, c1, c2] t)) :
    (w.cell? ⟨b, 0, none⟩ = some c0 ∧ w.cell? ⟨b, 1, none⟩ = some c1 ∧ w.cell? ⟨b, 2, none⟩ = some c2) ∧ (∀ j, w.frozen? ⟨b, j, none⟩ = false) := by
  refine ⟨⟨?_, ?_, ?_⟩, fun j => ?_⟩
  · rw [cell_of_row w b 0 _ _ _ h]; rfl
  · rw [cell_of_row w b 1 _ _ _ h]; rfl
  · rw [cell_of_row w b 2 _ _ _ h]; rfl
  · simp [World.frozen?, h]

theorem own_ne_box {w : World} {base : Nat} {v : Value} {n : Nat} {xs : List Value} (h : w.ownsRow base 73 3 v n xs) {b : Nat} {cs : Array Value} {t : TypeId} (ht : t ≠ 73)
    (hb : w.heap[b]? = some (.cells cs t)) : v.ownBlock ≠ some b := by
  intro e
  rcases h.2 with ⟨rfl, _⟩ | ⟨g, cap, cur, rfl, _, hg, _⟩
  · simp [Value.ownBlock] at e
  · simp [Value.ownBlock] at e
    subst e
    rw [hg] at hb
    simp at hb
    exact ht hb.2.symm

theorem grownBy_trans {a b c : World} {row : Option Nat} (h : a.grownBy b row) (k : b.grownBy c row) : a.grownBy c row :=
  ⟨k.os.trans h.os, k.tape.trans h.tape, k.output.trans h.output, Nat.le_trans h.size k.size, fun i hi hr => (k.block i (Nat.lt_of_lt_of_le hi h.size) hr).trans (h.block i hi hr)⟩
theorem grownBy_setCell {a b : World} {row : Option Nat} (h : a.grownBy b row) {p : Addr} (hp : a.heap.size ≤ p.block) (u : Value) : a.grownBy (b.setCell p u) row :=
  ⟨h.os, h.tape, h.output, by simp [World.setCell]; exact h.size, fun i hi hr => (heap_setCell_other _ _ _ _ (by omega)).trans (h.block i hi hr)⟩

set_option maxHeartbeats 400000 in
set_option maxRecDepth 100000 in
theorem empty_any (self : Int) (pa : Option Addr) (pl pc : Nat) (w : World) :
    Calls Try.prog 13 #[.int .u64 self, .slice pa pl pc] w fun e w' => e = .returned (.agg #[.int .u64 self, .slice none 0 0, .slice pa pl pc]) ∧ w.grownBy w' none := by
  go_enter Try.func13, Try.ntmps13
  go_wp2
  exact bodyPost_ret (v := .agg #[.int .u64 self, .slice none 0 0, .slice pa pl pc]) (by simp [results, Try.results13, go_sem]) rfl ⟨rfl, World.grownBy_alloc _ _ _⟩

theorem new_cell {w : World} (cs : Array Value) (t : TypeId) (b : Nat) (hb : b = w.heap.size) (j : Nat) : (w.alloc (.cells cs t)).cell? ⟨b, 0 + j, none⟩ = cs[j]? := by
  subst hb
  rw [cell_of_row _ _ _ _ _ _ (heap_alloc_new w _), Nat.zero_add]

theorem add_boxes {w w1 : World} {base n cap : Nat} {ao : Option Addr} {xs : List Value} {a b c : Array Value} {t t' t'' : TypeId} (hown : w.ownsRow base 73 3 (.slice ao n cap) n xs)
    (hgrow : (((w.alloc (.cells a t)).alloc (.cells b t')).alloc (.cells c t'')).grownBy w1 (Value.slice ao n cap).ownBlock) :
    w1.heap[w.heap.size]? = some (.cells a t) ∧ w1.heap[w.heap.size + 1]? = some (.cells b t') := by
  have hne : ∀ k, w.heap.size ≤ k → some k ≠ (Value.slice ao n cap).ownBlock := fun k hk e => by
    have := (hown.lt k e.symm).2; omega
  constructor
  · rw [hgrow.block w.heap.size (by simp; omega) (hne _ (Nat.le_refl _))]
    rw [Below.heap_alloc _ _ _ (by simp; omega), Below.heap_alloc _ _ _ (by simp), heap_alloc_new]
  · rw [hgrow.block (w.heap.size + 1) (by simp) (hne _ (by omega))]
    rw [Below.heap_alloc _ _ _ (by simp)]
    have := heap_alloc_new (w.alloc (.cells a t)) (.cells b t')
    simpa using this

/-- Behind ZZaddMember. -/
def AddPost (w : World) (self : Int) (v : Value) (n : Nat) (pa : Option Addr) (pl pc : Nat) (base : Nat) (ys : List Value) (e : Ending) (w' : World) : Prop :=
  ∃ ao' cap', e = .returned (.agg #[.int .u64 self, .slice ao' (n + 1) cap', .slice pa pl pc]) ∧ w'.ownsRow base 73 3 (.slice ao' (n + 1) cap') (n + 1) ys ∧ w.grownBy w' v.ownBlock

set_option maxHeartbeats 400000 in
set_option maxRecDepth 100000 in
theorem add_any (self : Int) (ao : Option Addr) (n cap : Nat) (pa : Option Addr) (pl pc : Nat) (id : Int) (addr : ByteArray) (part : Int) (base : Nat) (xs : List Value) (w : World)
    (hown : w.ownsRow base 73 3 (.slice ao n cap) n xs) (hn : n ≤ 1000000) (hB : base ≤ w.heap.size) :
    Calls Try.prog 17 #[.agg #[.int .u64 self, .slice ao n cap, .slice pa pl pc], .int .u64 id, .string addr, .int .u8 part] w fun e w' =>
      AddPost w self (.slice ao n cap) n pa pl pc base (xs ++ [.int .u64 id, .string addr, .int .u8 part]) e w' := by
  obtain ⟨i0, hi, hz0, hz1, hz2⟩ := info_parts Try.info73
  go_enter Try.func17, Try.ntmps17
  go_wp2_with (at_builtin; refine wpList_append_own _ rfl (.tmp 10) (.tmp 16) 29 rfl base 73 i0 (.agg #[.int .u64 0, .string ByteArray.empty, .int .u8 0]) 3 32 Try.underlying29 hi hz0 hz1 hz2 rfl (by decide) _ n xs rfl (((hown.alloc _).alloc _).alloc _) ⟨w.heap.size + 1 + 1, 0, none⟩ 1 1 [.int .u64 id, .string addr, .int .u8 part] rfl rfl ?c1 ?c2 ?c3 ?c4 ?c5 ?_)
  case c1 =>
    intro j u hj
    match j, hj with
    | 0, hj => simp at hj; subst hj; exact new_cell _ _ _ (by simp) 0
    | 1, hj => simp at hj; subst hj; exact new_cell _ _ _ (by simp) 1
    | 2, hj => simp at hj; subst hj; exact new_cell _ _ _ (by simp) 2
  case c2 => intro u hu; simp at hu; rcases hu with rfl | rfl | rfl <;> rfl
  case c3 => unfold maxLen; omega
  case c4 => omega
  case c5 => simp; omega
  intro v' w1 hown' hgrow _
  obtain ⟨hb1, hb2⟩ := add_boxes hown hgrow
  have d1 := own_ne_box hown' (by decide) hb1
  have d2 := own_ne_box hown' (by decide) hb2
  obtain ⟨⟨c0, c1, c2⟩, f1⟩ := box3 hb1
  obtain ⟨⟨e0, e1, e2⟩, f2⟩ := box3 hb2
  rcases hown'.2 with ⟨_, h⟩ | ⟨g, cap', cur, rfl, _⟩
  · omega
  have HO : Hid _ := hown'
  have HG : Hid _ := hgrow
  have HD : Hid _ := And.intro d1 d2
  clear hown' hgrow hb1 hb2 hown d1 d2
  go_wp2
  refine bodyPost_ret (v := .agg #[.int .u64 self, .slice (some ⟨g, 0, none⟩) (n + 1) cap', .slice pa pl pc]) (by simp [results, Try.results17, go_sem, e0, e1, e2]) rfl ⟨_, _, rfl, ?_, ?_⟩
  · refine ownsRow_setCell_other (ownsRow_setCell_other (ownsRow_setCell_other (ownsRow_setCell_other HO.out HD.out.1 _) HD.out.2 _) HD.out.2 _) HD.out.2 _
  · have g0 : w.grownBy w1 (Value.slice ao n cap).ownBlock := grownBy_trans (grownBy_trans (grownBy_trans (World.grownBy_alloc _ _ _) (World.grownBy_alloc _ _ _)) (World.grownBy_alloc _ _ _)) HG.out
    exact grownBy_setCell (grownBy_setCell (grownBy_setCell (grownBy_setCell g0 (Nat.le_refl _) _) (Nat.le_succ _) _) (Nat.le_succ _) _) (Nat.le_succ _) _
end Go.Proofs.Qxb6614540a
