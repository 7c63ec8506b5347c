import Derived.Test.Qxb6614540aRows
import Derived.WalkKit
import Derived.WalkSpells
import Derived.WalkLawsBesides
namespace Go.Proofs.Qxb6614540a
open Go.RowKit

/-- Rows of ConfigRow: row k's three cells. -/
def RowsIn (w : World) (ao : Option Addr) (n : Nat) (ID : Nat → Int) (Ad : Nat → ByteArray) (Pt : Nat → Int) : Prop :=
  ∀ k, k < n → ∃ b off, ao = some ⟨b, off, none⟩ ∧ b < w.heap.size ∧ w.cell? ⟨b, off + k * 3, none⟩ = some (.int .u64 (ID k)) ∧
    w.cell? ⟨b, off + k * 3 + 1, none⟩ = some (.string (Ad k)) ∧ w.cell? ⟨b, off + k * 3 + 2, none⟩ = some (.int .u8 (Pt k))

/-- A bool comes back, of which P holds. -/
def RetB (P : Bool → Prop) (e : Ending) : Prop := ∃ r : Bool, e = .returned (.bool r) ∧ P r

def SmallIf (n np : Nat) (r : Bool) : Prop := r = false → n ≤ 65536 ∧ np ≤ 65536
theorem SmallIf.yes (n np : Nat) : SmallIf n np true := fun h => by cases h
theorem SmallIf.no {n np : Nat} (h : n ≤ 65536) (h' : np ≤ 65536) : SmallIf n np false := fun _ => ⟨h, h'⟩

def AnyB (_ : Bool) : Prop := True

/-- Some row below n has the id. -/
def listed (n : Nat) (ID : Nat → Int) (id : Int) : Bool := (List.range n).any fun k => ID k == id

theorem ret_bool {a b : Bool} (h : a = b) : Ending.returned (.bool a) = .returned (.bool b) := by rw [h]

set_option maxHeartbeats 400000 in
theorem tooBig_any (ao : Option Addr) (n c : Nat) (ID : Nat → Int) (Ad : Nat → ByteArray) (Pt : Nat → Int) (po : Option Addr) (np pc : Nat) (ex : Int) (w : World)
    (hn : n ≤ maxLen) (hp : np ≤ maxLen) (hr : RowsIn w ao n ID Ad Pt) :
    Calls Try.prog 10 #[.slice ao n c, .slice po np pc, .int .i64 ex] w fun e w' => RetB (SmallIf n np) e ∧ w' = w := by
  unfold maxLen at hn hp
  by_cases h1 : n ≤ 65536
  case neg =>
    go_enter Try.func10, Try.ntmps10
    go_wp2
    go_ret
    exact ⟨⟨true, rfl, SmallIf.yes _ _⟩, rfl⟩
  by_cases h2 : np ≤ 65536
  case neg =>
    go_enter Try.func10, Try.ntmps10
    go_wp2
    go_ret
    exact ⟨⟨true, rfl, SmallIf.yes _ _⟩, rfl⟩
  by_cases h3 : ex ≤ 1048576
  case neg =>
    go_enter Try.func10, Try.ntmps10
    go_wp2
    go_ret
    exact ⟨⟨true, rfl, SmallIf.yes _ _⟩, rfl⟩
  by_cases h4 : wrap64 (wrap64 (ex + ↑n * 24) + ↑np * 8) ≤ 1048576
  case neg =>
    go_enter Try.func10, Try.ntmps10
    go_wp2
    go_ret
    exact ⟨⟨true, rfl, SmallIf.yes _ _⟩, rfl⟩
  go_enter Try.func10, Try.ntmps10
  go_wp2
  go_loop [7, 8] (fun t i => ∃ (k : Nat) (z : Int), k ≤ n ∧ i = .int .i64 k ∧ t = .int .i64 z) (fun _ i => n - (intOf i).toNat)
  case atStart => exact ⟨0, _, Nat.zero_le _, rfl, rfl⟩
  case round =>
    obtain ⟨k, z, hk, rfl, rfl⟩ := hrel
    by_cases hlt : k < n
    · obtain ⟨b, off, rfl, hb, c0, c1, c2⟩ := hr k hlt
      go_wp2
      · go_ret
        exact ⟨⟨true, rfl, SmallIf.yes _ _⟩, rfl⟩
      · go_ret
        exact ⟨⟨true, rfl, SmallIf.yes _ _⟩, rfl⟩
      · go_round
        case rel => exact ⟨k + 1, _, by omega, by go_num, rfl⟩
        case measure => simp [intOf]; omega
    · go_wp2
      go_ret
      exact ⟨⟨false, rfl, SmallIf.no h1 h2⟩, rfl⟩

set_option maxHeartbeats 400000 in
theorem zzBytesIns_any (self : Int) (s : ByteArray) (part : Int) (ao : Option Addr) (n c : Nat) (ID : Nat → Int) (Ad : Nat → ByteArray) (Pt : Nat → Int) (po : Option Addr) (np pc : Nat) (pos : Int) (w : World)
    (hs : s.size ≤ maxLen) (hn : n ≤ maxLen) (hr : RowsIn w ao n ID Ad Pt) :
    Calls Try.prog 16 #[.int .u64 self, .string s, .int .u8 part, .slice ao n c, .slice po np pc, .int .i64 pos] w fun e w' => RetB AnyB e ∧ w' = w := by
  unfold maxLen at hs hn
  by_cases h1 : s.size ≤ 1048576
  case neg =>
    go_enter Try.func16, Try.ntmps16
    go_wp2
    go_ret
    exact ⟨⟨_, rfl, trivial⟩, rfl⟩
  by_cases h2 : n ≤ 1048576
  case neg =>
    go_enter Try.func16, Try.ntmps16
    go_wp2
    go_ret
    exact ⟨⟨_, rfl, trivial⟩, rfl⟩
  by_cases h3 : s.size + n ≤ 1048576
  case neg =>
    go_enter Try.func16, Try.ntmps16
    go_wp2
    go_ret
    exact ⟨⟨_, rfl, trivial⟩, rfl⟩
  go_enter Try.func16, Try.ntmps16
  go_wp2
  go_loop [13, 14] (fun t i => ∃ (k : Nat) (z : Int), k ≤ n ∧ i = .int .i64 k ∧ t = .int .i64 z) (fun _ i => n - (intOf i).toNat)
  case atStart => exact ⟨0, _, Nat.zero_le _, rfl, rfl⟩
  case round =>
    obtain ⟨k, z, hk, rfl, rfl⟩ := hrel
    by_cases hlt : k < n
    · obtain ⟨b, off, rfl, hb, c0, c1, c2⟩ := hr k hlt
      go_wp2
      · go_ret
        exact ⟨⟨_, rfl, trivial⟩, rfl⟩
      · go_ret
        exact ⟨⟨_, rfl, trivial⟩, rfl⟩
      · go_round
        case rel => exact ⟨k + 1, _, by omega, by go_num, rfl⟩
        case measure => simp [intOf]; omega
    · go_wp2
      all_goals
        go_ret
        exact ⟨⟨_, rfl, trivial⟩, rfl⟩

set_option maxHeartbeats 400000 in
theorem zzBytesCut_any (self : Int) (ao : Option Addr) (n c : Nat) (ID : Nat → Int) (Ad : Nat → ByteArray) (Pt : Nat → Int) (po : Option Addr) (np pc : Nat) (pos : Int) (w : World)
    (hn : n ≤ maxLen) (hr : RowsIn w ao n ID Ad Pt) :
    Calls Try.prog 9 #[.int .u64 self, .slice ao n c, .slice po np pc, .int .i64 pos] w fun e w' => RetB AnyB e ∧ w' = w := by
  unfold maxLen at hn
  by_cases h2 : n ≤ 1048576
  case neg =>
    go_enter Try.func9, Try.ntmps9
    go_wp2
    go_ret
    exact ⟨⟨_, rfl, trivial⟩, rfl⟩
  go_enter Try.func9, Try.ntmps9
  go_wp2
  go_loop [9, 10] (fun t i => ∃ (k : Nat) (z : Int), k ≤ n ∧ i = .int .i64 k ∧ t = .int .i64 z) (fun _ i => n - (intOf i).toNat)
  case atStart => exact ⟨0, _, Nat.zero_le _, rfl, rfl⟩
  case round =>
    obtain ⟨k, z, hk, rfl, rfl⟩ := hrel
    by_cases hlt : k < n
    · obtain ⟨b, off, rfl, hb, c0, c1, c2⟩ := hr k hlt
      go_wp2
      · go_ret
        exact ⟨⟨_, rfl, trivial⟩, rfl⟩
      · go_ret
        exact ⟨⟨_, rfl, trivial⟩, rfl⟩
      · go_round
        case rel => exact ⟨k + 1, _, by omega, by go_num, rfl⟩
        case measure => simp [intOf]; omega
    · go_wp2
      all_goals
        go_ret
        exact ⟨⟨_, rfl, trivial⟩, rfl⟩

set_option maxHeartbeats 400000 in
theorem lists_any (ao : Option Addr) (n c : Nat) (ID : Nat → Int) (Ad : Nat → ByteArray) (Pt : Nat → Int) (id : Int) (w : World)
    (hn : n ≤ maxLen) (hr : RowsIn w ao n ID Ad Pt) :
    Calls Try.prog 15 #[.slice ao n c, .int .u64 id] w fun e w' => e = .returned (.bool (listed n ID id)) ∧ w' = w := by
  unfold maxLen at hn
  go_enter Try.func15, Try.ntmps15
  go_wp2
  go_loop [5] (fun i => ∃ (k : Nat), k ≤ n ∧ i = .int .i64 k ∧ ∀ j, j < k → ID j ≠ id) (fun i => n - (intOf i).toNat)
  case atStart => exact ⟨0, Nat.zero_le _, rfl, fun j hj => absurd hj (by omega)⟩
  case round =>
    obtain ⟨k, hk, rfl, hno⟩ := hrel
    have HN : Hid (∀ j, j < k → ID j ≠ id) := hno
    clear hno
    by_cases hlt : k < n
    · obtain ⟨b, off, rfl, hb, c0, c1, c2⟩ := hr k hlt
      by_cases heq : ID k = id
      · have e1 : (ID k == id) = true := by simp [heq]
        clear heq
        have HF : Hid (listed n ID id = true) := List.any_eq_true.2 ⟨k, List.mem_range.2 hlt, e1⟩
        go_wp2
        go_ret
        exact ⟨ret_bool HF.out.symm, rfl⟩
      · have e1 : (ID k == id) = false := by simp [heq]
        have HE : Hid (ID k ≠ id) := heq
        clear heq
        go_wp2
        go_round
        case rel =>
          refine ⟨k + 1, by omega, by go_num, fun j hj => ?_⟩
          by_cases h : j = k
          · subst h; exact HE.out
          · exact HN.out j (by omega)
        case measure => simp [intOf]; omega
    · have HF : Hid (listed n ID id = false) := by
        refine List.any_eq_false.2 fun j hj => ?_
        have := HN.out j (by have := List.mem_range.1 hj; omega)
        simpa using this
      go_wp2
      go_ret
      exact ⟨ret_bool HF.out.symm, rfl⟩
end Go.Proofs.Qxb6614540a
