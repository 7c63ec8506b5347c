import Derived.Test.Qxb6614540aWe
namespace Go.Proofs.Qxb6614540a
open Go.RowKit

/-! ### Plain laws: no Go in sight -/
def idOf (l : List (Int × ByteArray × Int)) (k : Nat) : Int := (l.getD k (0, ByteArray.empty, 0)).1
def adOf (l : List (Int × ByteArray × Int)) (k : Nat) : ByteArray := (l.getD k (0, ByteArray.empty, 0)).2.1
def ptOf (l : List (Int × ByteArray × Int)) (k : Nat) : Int := (l.getD k (0, ByteArray.empty, 0)).2.2

theorem listed_list (l : List (Int × ByteArray × Int)) (id : Int) : listed l.length (idOf l) id = l.any fun t => t.1 == id := by
  rw [Bool.eq_iff_iff]
  unfold listed
  simp only [List.any_eq_true, List.mem_range]
  constructor
  · rintro ⟨k, hk, h⟩
    refine ⟨l[k], List.getElem_mem hk, ?_⟩
    simpa [idOf, List.getD_eq_getElem?_getD, hk] using h
  · rintro ⟨t, ht, h⟩
    obtain ⟨k, hk, rfl⟩ := List.getElem_of_mem ht
    exact ⟨k, hk, by simpa [idOf, List.getD_eq_getElem?_getD, hk] using h⟩

theorem cellsOf_at (l : List (Int × ByteArray × Int)) (k : Nat) (hk : k < l.length) :
    (cellsOf l)[k * 3]? = some (.int .u64 (idOf l k)) ∧ (cellsOf l)[k * 3 + 1]? = some (.string (adOf l k)) ∧ (cellsOf l)[k * 3 + 2]? = some (.int .u8 (ptOf l k)) := by
  induction l generalizing k with
  | nil => simp at hk
  | cons t l ih =>
    have e : cellsOf (t :: l) = .int .u64 t.1 :: .string t.2.1 :: .int .u8 t.2.2 :: cellsOf l := by simp [cellsOf]
    rw [e]
    match k, hk with
    | 0, _ => simp [idOf, adOf, ptOf]
    | k + 1, hk =>
      have := ih k (by simpa using hk)
      rw [show (k + 1) * 3 = k * 3 + 1 + 1 + 1 from by omega, show k * 3 + 1 + 1 + 1 + 1 = (k * 3 + 1) + 1 + 1 + 1 from by omega, show k * 3 + 1 + 1 + 1 + 2 = (k * 3 + 2) + 1 + 1 + 1 from by omega]
      simpa [idOf, adOf, ptOf] using this

theorem length_cellsOf (l : List (Int × ByteArray × Int)) : (cellsOf l).length = l.length * 3 := by
  induction l with
  | nil => rfl
  | cons t l ih =>
    have e : cellsOf (t :: l) = .int .u64 t.1 :: .string t.2.1 :: .int .u8 t.2.2 :: cellsOf l := by simp [cellsOf]
    rw [e]; simp [ih]; omega

theorem rows_of_own {w : World} {base m cap : Nat} {ao : Option Addr} {l : List (Int × ByteArray × Int)} (h : w.ownsRow base 73 3 (.slice ao m cap) m (cellsOf l)) : m = l.length ∧ RowsIn w ao m (idOf l) (adOf l) (ptOf l) := by
  have hl : m = l.length := by have := h.1; rw [length_cellsOf] at this; omega
  refine ⟨hl, fun k hk => ?_⟩
  rcases h.2 with ⟨_, h0⟩ | ⟨g, cap', cur, e, hb, hg, _⟩
  · omega
  · cases e
    have c := cellsOf_at l k (by omega)
    refine ⟨g, 0, rfl, lt_of_block hg, ?_, ?_, ?_⟩
    · rw [show 0 + k * 3 = k * 3 from by omega, h.cellAt _ (by omega)]; exact c.1
    · rw [show 0 + k * 3 + 1 = k * 3 + 1 from by omega, h.cellAt _ (by omega)]; exact c.2.1
    · rw [show 0 + k * 3 + 2 = k * 3 + 2 from by omega, h.cellAt _ (by omega)]; exact c.2.2

theorem seg_length (ID : Nat → Int) (Ad : Nat → ByteArray) (Pt : Nat → Int) (lo k : Nat) : (seg ID Ad Pt lo k).length = k := by simp [seg]

/-- The rows below k whose id is not 'self'. -/
def keptL (self : Int) (ID : Nat → Int) (Ad : Nat → ByteArray) (Pt : Nat → Int) (k : Nat) : List (Int × ByteArray × Int) := (seg ID Ad Pt 0 k).filter fun t => !(t.1 == self)
theorem kept_yes (self : Int) (ID : Nat → Int) (Ad : Nat → ByteArray) (Pt : Nat → Int) (k : Nat) (h : ID k ≠ self) : keptL self ID Ad Pt (k + 1) = keptL self ID Ad Pt k ++ [(ID k, Ad k, Pt k)] := by
  simp [keptL, seg_succ, List.filter_append, h]
theorem kept_no (self : Int) (ID : Nat → Int) (Ad : Nat → ByteArray) (Pt : Nat → Int) (k : Nat) (h : ID k = self) : keptL self ID Ad Pt (k + 1) = keptL self ID Ad Pt k := by
  simp [keptL, seg_succ, List.filter_append, h]
theorem kept_le (self : Int) (ID : Nat → Int) (Ad : Nat → ByteArray) (Pt : Nat → Int) (k : Nat) : (keptL self ID Ad Pt k).length ≤ k := by
  have := List.length_filter_le (fun t : Int × ByteArray × Int => !(t.1 == self)) (seg ID Ad Pt 0 k)
  rwa [seg_length] at this
theorem kept_any (self : Int) (ID : Nat → Int) (Ad : Nat → ByteArray) (Pt : Nat → Int) (k : Nat) : ((keptL self ID Ad Pt k).any fun t => t.1 == self) = false := by
  simp [keptL]
theorem with_any (self : Int) (s : ByteArray) (p : Int) (a b : List (Int × ByteArray × Int)) : (((a ++ [(self, s, p)]) ++ b).any fun t => t.1 == self) = true := by simp
/-- The original is without self iff all were kept. -/
theorem orig_any (self : Int) (ID : Nat → Int) (Ad : Nat → ByteArray) (Pt : Nat → Int) (n : Nat) :
    (!((seg ID Ad Pt 0 n).any fun t => t.1 == self)) = (((keptL self ID Ad Pt n).length : Int) == (n : Int)) := by
  have h := List.length_filter_eq_length_iff (p := fun t : Int × ByteArray × Int => !(t.1 == self)) (l := seg ID Ad Pt 0 n)
  rw [seg_length] at h
  rw [Bool.eq_iff_iff]
  simp only [beq_iff_eq, Int.natCast_inj]
  show _ ↔ ((seg ID Ad Pt 0 n).filter fun t => !(t.1 == self)).length = n
  rw [h]
  simp

end Go.Proofs.Qxb6614540a
