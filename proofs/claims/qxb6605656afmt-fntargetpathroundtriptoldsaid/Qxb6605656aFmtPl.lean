/-
  PLAIN LAWS ON DECIMAL NUMERALS: no Go in sight.
-/
import Derived.Lib.ItoaNum
import Derived.Lib.ItoaMem
import Derived.Lib.ItoaLen
namespace Go.Proofs.Qxb6605656aFmt
open Go.Lib

/-- The number that a list of digits spells. -/
def hv (l : List UInt8) : Nat := l.foldl (fun a c => a * 10 + (c.toNat - 48)) 0
theorem hv_snoc (l : List UInt8) (c : UInt8) : hv (l ++ [c]) = hv l * 10 + (c.toNat - 48) := by simp [hv, List.foldl_append]
theorem hv_grows (l r : List UInt8) : hv l ≤ hv (l ++ r) := by
  suffices h : ∀ n, ∀ r : List UInt8, r.length = n → hv l ≤ hv (l ++ r) from h _ r rfl
  intro n
  induction n with
  | zero => intro r hr; rw [List.length_eq_zero_iff.1 hr, List.append_nil]; exact Nat.le_refl _
  | succ n ih =>
    intro r hr
    have hne : r ≠ [] := by intro e; subst e; simp at hr
    have e := List.dropLast_concat_getLast hne
    rw [← e, ← List.append_assoc, hv_snoc]
    have := ih r.dropLast (by simp [hr])
    omega
theorem hv_take (l : List UInt8) (k : Nat) : hv (l.take k) ≤ hv l := by
  have := hv_grows (l.take k) (l.drop k)
  rwa [List.take_append_drop] at this

theorem digit_toNat (u : Nat) (h : u < 10) : (UInt8.ofNat (48 + u)).toNat = 48 + u := by
  rw [UInt8.toNat_ofNat']; omega

theorem hv_dec (u : Nat) : hv (decDigits u) = u := by
  induction u using Nat.strongRecOn with
  | ind u ih =>
    rw [decDigits]
    split
    · rename_i h
      simp [hv]
      omega
    · rename_i h
      rw [hv_snoc, ih (u / 10) (by omega), digit_toNat (u % 10) (by omega)]
      omega

theorem dec_digit (u : Nat) : ∀ c ∈ decDigits u, 48 ≤ c.toNat ∧ c.toNat ≤ 57 := by
  induction u using Nat.strongRecOn with
  | ind u ih =>
    rw [decDigits]
    split
    · rename_i h
      intro c hc
      simp only [List.mem_singleton] at hc
      subst hc
      rw [digit_toNat u h]; omega
    · rename_i h
      intro c hc
      rcases List.mem_append.1 hc with hc | hc
      · exact ih (u / 10) (by omega) c hc
      · simp only [List.mem_singleton] at hc
        subst hc
        rw [digit_toNat (u % 10) (by omega)]; omega

theorem dec_pos (u : Nat) : 0 < (decDigits u).length := by
  rw [decDigits]; split <;> simp

theorem dec_head (u : Nat) (h : ((decDigits u)[0]'(dec_pos u)).toNat = 48) : u = 0 := by
  induction u using Nat.strongRecOn with
  | ind u ih =>
    by_cases hu : u < 10
    · have e : decDigits u = [UInt8.ofNat (48 + u)] := by rw [decDigits, dif_pos hu]
      simp only [e, List.getElem_cons_zero, digit_toNat u hu] at h
      omega
    · have e : decDigits u = decDigits (u / 10) ++ [UInt8.ofNat (48 + u % 10)] := by rw [decDigits, dif_neg hu]
      simp only [e] at h
      rw [List.getElem_append_left (dec_pos (u / 10))] at h
      have := ih (u / 10) (by omega) h
      omega
theorem dec_zero : decDigits 0 = [48] := by rw [decDigits]; simp
end Go.Proofs.Qxb6605656aFmt
