/-
  THE WALKS: zzParseCanon at a canonical numeral.
-/
import Derived.Test.Qxb6605656aFmtRows
import Derived.Test.Qxb6605656aFmtPl
import Derived.WalkKit
import Derived.WalkSpells
import Derived.WalkLawsBesides
import Derived.Lib.Strings
namespace Go.Proofs.Qxb6605656aFmt
open Go.RowKit

/-- The value of the first k bytes behind position o. -/
def pv (s : ByteArray) (o k : Nat) : Int := (hv ((s.data.toList.drop o).take k) : Nat)
theorem pv_zero (s : ByteArray) (o : Nat) : pv s o 0 = 0 := by simp [pv, hv]
theorem pv_nonneg (s : ByteArray) (o k : Nat) : 0 ≤ pv s o k := by unfold pv; omega
theorem pv_le (s : ByteArray) (o k : Nat) : pv s o k ≤ (hv (s.data.toList.drop o) : Nat) := by
  unfold pv; have := hv_take (s.data.toList.drop o) k; omega
theorem pv_all (s : ByteArray) (o k : Nat) (h : s.size ≤ o + k) : pv s o k = (hv (s.data.toList.drop o) : Nat) := by
  unfold pv
  rw [List.take_of_length_le]
  have : s.data.toList.length = s.size := (Lib.size_eq s).symm
  simp; omega
theorem pv_succ (s : ByteArray) (o k : Nat) (h : o + k < s.size) (hc : 48 ≤ (s[o + k].toNat : Int)) : pv s o (k + 1) = pv s o k * 10 + ((s[o + k].toNat : Int) - 48) := by
  unfold pv
  have hl : s.data.toList.length = s.size := (Lib.size_eq s).symm
  rw [List.take_succ_eq_append_getElem (by simp; omega), hv_snoc]
  have e : (s.data.toList.drop o)[k]'(by simp; omega) = s[o + k] := by
    rw [List.getElem_drop]; rfl
  rw [e]
  omega

/-- The value of a numeral with a sign. -/
def nv (s : ByteArray) : Int := -((hv (s.data.toList.drop 1) : Nat) : Int)

theorem ret_pair {a b : Int} (h : a = b) : Ending.returned (.tuple #[.int .i64 a, .bool true]) = .returned (.tuple #[.int .i64 b, .bool true]) := by rw [h]

set_option maxHeartbeats 400000 in
set_option maxRecDepth 100000 in
theorem parse_pos (s : ByteArray) (w : World) (h0 : 0 < s.size) (hs : s.size ≤ 100) (hd : ∀ i (h : i < s.size), 48 ≤ (s[i].toNat : Int) ∧ (s[i].toNat : Int) ≤ 57) (hz : (s[0].toNat : Int) = 48 → s.size = 1) (hv9 : hv s.data.toList ≤ 9223372036854775807) :
    Calls Tryf.prog 6 #[.string s] w fun e w' => e = .returned (.tuple #[.int .i64 (hv s.data.toList), .bool true]) ∧ w' = w := by
  obtain ⟨d1, d2⟩ := hd 0 h0
  have hne : ((s[0].toNat : Int) == 45) = false := by simp; omega
  have hse : ¬ s = ByteArray.empty := fun e => by subst e; simp at h0
  have hq : ((s[0].toNat : Int) == 48) = true ∧ s.size ≤ 1 ∨ ((s[0].toNat : Int) == 48) = false := by
    by_cases e : (s[0].toNat : Int) = 48
    · exact .inl ⟨by simp [e], by have := hz e; omega⟩
    · exact .inr (by simp [e])
  have HD : Hid _ := And.intro hd hv9
  clear hd hv9 hz
  rcases hq with ⟨hq, h1⟩ | hq
  all_goals
    go_enter Tryf.func6, Tryf.ntmps6
    go_wp2
    go_loop [7, 5] (fun u p => ∃ k : Nat, k ≤ s.size ∧ p = .int .i64 k ∧ u = .int .u64 (pv s 0 k)) (fun _ p => s.size - (intOf p).toNat)
    case atStart => exact ⟨0, Nat.zero_le _, rfl, by rw [pv_zero]⟩
    case round =>
      obtain ⟨k, hk, rfl, rfl⟩ := hrel
      by_cases hlt : k < s.size
      · obtain ⟨hd, hv9⟩ := HD.out
        obtain ⟨c1, c2⟩ := hd k hlt
        have hsu := pv_succ s 0 k (by omega) (by simpa using c1)
        have hle := pv_le s 0 (k + 1)
        have hnn := pv_nonneg s 0 k
        simp only [Nat.zero_add] at hsu
        simp only [List.drop_zero] at hle
        have hle2 : pv s 0 k * 10 + ((s[k].toNat : Int) - 48) ≤ 9223372036854775807 := by omega
        have HS : Hid _ := hsu
        clear hsu hle hd hv9
        generalize pv s 0 k = x at *
        go_wp2
        go_round
        case rel => exact ⟨k + 1, by omega, by go_num, by rw [HS.out]⟩
        case measure => simp [intOf]; omega
      · obtain ⟨hd, hv9⟩ := HD.out
        have hle := pv_le s 0 k
        have hnn := pv_nonneg s 0 k
        have hal := pv_all s 0 k (by omega)
        simp only [List.drop_zero] at hle hal
        have hle2 : pv s 0 k ≤ 9223372036854775807 := by omega
        have HS : Hid _ := hal
        clear hal hle hd hv9
        go_wp2
        go_ret2
        exact ⟨ret_pair HS.out, rfl⟩

set_option maxHeartbeats 400000 in
set_option maxRecDepth 100000 in
theorem parse_neg (s : ByteArray) (w : World) (h0 : 1 < s.size) (hs : s.size ≤ 100) (hm : (s[0].toNat : Int) = 45) (hd : ∀ i (h : i < s.size), 1 ≤ i → 48 ≤ (s[i].toNat : Int) ∧ (s[i].toNat : Int) ≤ 57) (hz : (s[1].toNat : Int) ≠ 48) (hv9 : hv (s.data.toList.drop 1) ≤ 9223372036854775808) :
    Calls Tryf.prog 6 #[.string s] w fun e w' => e = .returned (.tuple #[.int .i64 (nv s), .bool true]) ∧ w' = w := by
  have hne : ((s[0].toNat : Int) == 45) = true := by simp [hm]
  have hse : ¬ s = ByteArray.empty := fun e => by subst e; simp at h0
  have hq : ((s[1].toNat : Int) == 48) = false := by simp [hz]
  have HD : Hid _ := And.intro hd hv9
  clear hd hv9 hz hm
  go_enter Tryf.func6, Tryf.ntmps6
  go_wp2
  go_loop [7, 5] (fun u p => ∃ k : Nat, k + 1 ≤ s.size ∧ p = .int .i64 (k + 1) ∧ u = .int .u64 (pv s 1 k)) (fun _ p => s.size - (intOf p).toNat)
  case atStart => exact ⟨0, by omega, rfl, by rw [pv_zero]⟩
  case round =>
    obtain ⟨k, hk, rfl, rfl⟩ := hrel
    by_cases hlt : k + 1 < s.size
    · obtain ⟨hd, hv9⟩ := HD.out
      obtain ⟨c1, c2⟩ := hd (k + 1) hlt (by omega)
      have hsu := pv_succ s 1 k (by omega) (by simpa [Nat.add_comm] using c1)
      have hle := pv_le s 1 (k + 1)
      have hnn := pv_nonneg s 1 k
      simp only [Nat.add_comm 1 k] at hsu
      have hle2 : pv s 1 k * 10 + ((s[k + 1].toNat : Int) - 48) ≤ 9223372036854775808 := by omega
      have HS : Hid _ := hsu
      clear hsu hle hd hv9
      generalize pv s 1 k = x at *
      go_wp2
      go_round
      case rel => exact ⟨k + 1, by omega, by go_num, by rw [HS.out]⟩
      case measure => simp [intOf]; omega
    · obtain ⟨hd, hv9⟩ := HD.out
      have hle := pv_le s 1 k
      have hnn := pv_nonneg s 1 k
      have hal := pv_all s 1 k (by omega)
      have hle2 : pv s 1 k ≤ 9223372036854775808 := by omega
      have HS : Hid _ := hal
      clear hal hle hd hv9
      generalize pv s 1 k = x at *
      by_cases hx : x = 9223372036854775808
      · have hx2 : 9223372036854775808 ≤ x := by omega
        have HX : Hid _ := hx
        clear hx
        go_wp2
        go_ret2
        exact ⟨ret_pair (by unfold nv; have := HS.out; have := HX.out; omega), rfl⟩
      · have hx2 : x ≤ 9223372036854775807 := by omega
        clear hx
        go_wp2
        go_ret2
        exact ⟨ret_pair (by unfold nv; have := HS.out; omega), rfl⟩
end Go.Proofs.Qxb6605656aFmt
