import Derived.Test.Qxb6614540aWc
namespace Go.Proofs.Qxb6614540a
open Go.RowKit

theorem RowsIn.below {w w' : World} {ao : Option Addr} {n : Nat} {ID : Nat → Int} {Ad : Nat → ByteArray} {Pt : Nat → Int} (h : RowsIn w ao n ID Ad Pt) (hb : Below w.heap.size w w') : RowsIn w' ao n ID Ad Pt := by
  intro k hk
  obtain ⟨b, off, e, hlt, c0, c1, c2⟩ := h k hk
  exact ⟨b, off, e, Nat.lt_of_lt_of_le hlt hb.size, (hb.cell (p := ⟨b, _, none⟩) hlt).trans c0, (hb.cell (p := ⟨b, _, none⟩) hlt).trans c1, (hb.cell (p := ⟨b, _, none⟩) hlt).trans c2⟩

/-- Behind find: a member, whichever, and whether the id is listed. -/
def FindPost (b : Bool) (e : Ending) : Prop := ∃ (a : Int) (s : ByteArray) (p : Int), e = .returned (.tuple #[.agg #[.int .u64 a, .string s, .int .u8 p], .bool b])
theorem findPost_mk {a : Int} {s : ByteArray} {p : Int} {b b' : Bool} (h : b = b') : FindPost b (.returned (.tuple #[.agg #[.int .u64 a, .string s, .int .u8 p], .bool b'])) := ⟨a, s, p, by rw [h]⟩

set_option maxHeartbeats 400000 in
set_option maxRecDepth 100000 in
theorem find_any (ao : Option Addr) (n c : Nat) (ID : Nat → Int) (Ad : Nat → ByteArray) (Pt : Nat → Int) (id : Int) (w : World) (hn : n ≤ maxLen) (hr : RowsIn w ao n ID Ad Pt) :
    Calls Try.prog 36 #[.slice ao n c, .int .u64 id] w fun e w' => FindPost (listed n ID id) e ∧ Below w.heap.size w w' := by
  unfold maxLen at hn
  go_enter Try.func36, Try.ntmps36
  go_wp2
  go_loopw [10] (fun i wr => ∃ (k : Nat), k ≤ n ∧ i = .int .i64 k ∧ (∀ j, j < k → ID j ≠ id) ∧ Below w.heap.size w wr ∧ wr.heap[w.heap.size]? = some (.cells #[.int .u64 0, .string ByteArray.empty, .int .u8 0] 73)) (fun i _ => n - (intOf i).toNat)
  case atStart => exact ⟨0, Nat.zero_le _, rfl, fun j hj => absurd hj (by omega), (Below.refl _ _).alloc (Nat.le_refl _) _, heap_alloc_new _ _⟩
  case round =>
    obtain ⟨k, hk, rfl, hno, hb, hbox⟩ := hrel
    have HN : Hid (∀ j, j < k → ID j ≠ id) := hno
    have hsz := hb.size
    have hsz1 := lt_of_block hbox
    obtain ⟨⟨e0, e1, e2⟩, f2⟩ := box3 hbox
    have HB : Hid _ := hbox
    clear hno hbox
    by_cases hlt : k < n
    · obtain ⟨b, off, rfl, hbb, c0, c1, c2⟩ := (hr.below hb) k hlt
      by_cases heq : ID k = id
      · have q1 : (ID k == id) = true := by simp [heq]
        clear heq
        have HF : Hid (listed n ID id = true) := List.any_eq_true.2 ⟨k, List.mem_range.2 hlt, q1⟩
        go_wp2
        refine bodyPost_ret (v := .tuple #[.agg #[.int .u64 (ID k), .string (Ad k), .int .u8 (Pt k)], .bool true]) (by simp [results, Try.results36, go_sem, e0, e1, e2, hsz1]) rfl ⟨findPost_mk HF.out, ?_⟩
        · exact (((hb.setCell (Nat.le_refl _) _).setCell (Nat.le_refl _) _).setCell (Nat.le_refl _) _).alloc (by simp; omega) _
      · have q1 : (ID k == id) = false := by simp [heq]
        have HE : Hid (ID k ≠ id) := heq
        clear heq
        go_wp2
        go_roundw
        case rel =>
          refine ⟨k + 1, by omega, by go_num, fun j hj => ?_, hb.alloc (by omega) _, ?_⟩
          · by_cases h : j = k
            · subst h; exact HE.out
            · exact HN.out j (by omega)
          · rw [Below.heap_alloc _ _ _ hsz1]; exact HB.out
        case measure => simp [intOf]; omega
    · have HF : Hid (listed n ID id = false) := by
        refine List.any_eq_false.2 fun j hj => ?_
        have := HN.out j (by have := List.mem_range.1 hj; omega)
        simpa using this
      go_wp2
      refine bodyPost_ret (v := .tuple #[.agg #[.int .u64 0, .string ByteArray.empty, .int .u8 0], .bool false]) (by simp [results, Try.results36, go_sem, e0, e1, e2]; rfl) rfl ⟨findPost_mk HF.out, ?_⟩
      · exact ((hb.setCell (Nat.le_refl _) _).setCell (Nat.le_refl _) _).setCell (Nat.le_refl _) _

/-- Behind removed. -/
def RemPost (b : Bool) (e : Ending) : Prop := e = .returned (.bool (!b))

set_option maxHeartbeats 400000 in
set_option maxRecDepth 100000 in
theorem removed_any (self : Int) (ao : Option Addr) (n c : Nat) (pa : Option Addr) (pl pc : Nat) (ID : Nat → Int) (Ad : Nat → ByteArray) (Pt : Nat → Int) (w : World) (hn : n ≤ maxLen) (hr : RowsIn w ao n ID Ad Pt) :
    Calls Try.prog 29 #[.agg #[.int .u64 self, .slice ao n c, .slice pa pl pc]] w fun e w' => RemPost (listed n ID self) e ∧ Below w.heap.size w w' := by
  have hr' : RowsIn (w.alloc (.cells #[.int .u64 self, .slice ao n c, .slice pa pl pc] 31)) ao n ID Ad Pt := hr.below ((Below.refl _ _).alloc (Nat.le_refl _) _)
  go_enter Try.func29, Try.ntmps29
  go_wp2_with (go_at_call 36; refine (find_any ao n c ID Ad Pt self _ hn hr').mono ?_; rintro e w' ⟨⟨a, s, p, rfl⟩, hb⟩)
  go_ret
  have hsz := hb.size
  simp at hsz
  exact ⟨rfl, (((Below.refl _ _).alloc (Nat.le_refl _) _).trans (hb.mono (by simp))).alloc (by omega) _⟩

set_option maxHeartbeats 400000 in
set_option maxRecDepth 100000 in
theorem zzremoved_any (self : Int) (ao : Option Addr) (n c : Nat) (pa : Option Addr) (pl pc : Nat) (ID : Nat → Int) (Ad : Nat → ByteArray) (Pt : Nat → Int) (w : World) (hn : n ≤ maxLen) (hr : RowsIn w ao n ID Ad Pt) :
    Calls Try.prog 14 #[.agg #[.int .u64 self, .slice ao n c, .slice pa pl pc]] w fun e w' => RemPost (listed n ID self) e ∧ Below w.heap.size w w' := by
  have hr' : RowsIn (w.alloc (.cells #[.int .u64 self, .slice ao n c, .slice pa pl pc] 31)) ao n ID Ad Pt := hr.below ((Below.refl _ _).alloc (Nat.le_refl _) _)
  go_enter Try.func14, Try.ntmps14
  go_wp2_with (go_at_call 29; refine (removed_any self ao n c pa pl pc ID Ad Pt _ hn hr').mono ?_; rintro e w' ⟨he, hb⟩; unfold RemPost at he; subst he)
  go_ret
  exact ⟨rfl, ((Below.refl _ _).alloc (Nat.le_refl _) _).trans (hb.mono (by simp))⟩
end Go.Proofs.Qxb6614540a
