/-
  THE WALK OF FnKnotResultSentOneCountMovesOneEntry: one theorem for each kind that is moved (0 to 3), then the law.
-/
import Derived.Test.Qxb6614550aDoorWe
namespace Go.Proofs.Qxb6614550aDoor
open Go.RowKit Go.Maps Go.WideMaps

set_option maxHeartbeats 1000000 in
set_option maxRecDepth 100000 in
theorem law_at0 (ik : Bool) (m1 m2 m3 m4 at' n : Int) (g o c : Nat) (w : World) (hg : w.cell? ⟨0, 0, none⟩ = some (.slice (some ⟨g, o, none⟩) 4 c)) (hk : KindsAt w g o)
    (hw1 : (Lit.int .i64 m1).wf = true) (hw2 : (Lit.int .i64 m2).wf = true) (hw3 : (Lit.int .i64 m3).wf = true) (hw4 : (Lit.int .i64 m4).wf = true) (hwn : (Lit.int .i64 n).wf = true) :
    Calls Tryd.prog 4 #[.bool ik, .int .i64 m1, .int .i64 m2, .int .i64 m3, .int .i64 m4, .int .i64 at', .int .i64 0, .int .i64 n] w fun e w' => e = .returned (.bool true) ∧ Below w.heap.size w w' := by
  have hlg : 0 < w.heap.size := World.block_lt_of_cell? _ _ hg
  have HP : Hid _ := And.intro hk (And.intro hw1 (And.intro hw2 (And.intro hw3 (And.intro hw4 hwn))))
  clear hk hw1 hw2 hw3 hw4 hwn
  go_enter Tryd.func4, Tryd.ntmps4
  go_wp2_with fail
  have A1 : Below w.heap.size w (w.alloc (.cells #[.bool ik, .int .i64 m1, .int .i64 m2, .int .i64 m3, .int .i64 m4, .int .i64 at'] 23)) := (Below.refl _ _).alloc (Nat.le_refl _) _
  have A2 := A1.alloc A1.size (.cells #[.bool !ik, .int .i64 n, .int .i64 m2, .int .i64 m3, .int .i64 m4, .int .i64 (bits BinOp.xor .i64 at' 1)] 23)
  have B2 := Box6.made (w.alloc (.cells #[.bool ik, .int .i64 m1, .int .i64 m2, .int .i64 m3, .int .i64 m4, .int .i64 at'] 23)) (.bool !ik) (.int .i64 n) (.int .i64 m2) (.int .i64 m3) (.int .i64 m4) (.int .i64 (bits BinOp.xor .i64 at' 1)) 23 (w.heap.size + 1) (by simp)
  have HB : Hid _ := And.intro A2 B2
  clear A1 A2 B2
  generalize (w.alloc (.cells #[.bool ik, .int .i64 m1, .int .i64 m2, .int .i64 m3, .int .i64 m4, .int .i64 at'] 23)).alloc (.cells #[.bool !ik, .int .i64 n, .int .i64 m2, .int .i64 m3, .int .i64 m4, .int .i64 (bits BinOp.xor .i64 at' 1)] 23) = W0 at *
  generalize bits BinOp.xor .i64 at' 1 = at2 at *
  obtain ⟨hk, hw1, hw2, hw3, hw4, hwn⟩ := HP.out
  have hg0 := (HB.out.1.cell (p := ⟨0, 0, none⟩) hlg).trans hg
  refine (sent_any ik m1 m2 m3 m4 at' g o c W0 hg0 (hk.below HB.out.1) hw1 hw2 hw3 hw4).mono ?_
  rintro e wa ⟨Na, rfl, hsa, hba⟩
  have hbwa := HB.out.1.trans (hba.mono HB.out.1.size)
  have hga := (hbwa.cell (p := ⟨0, 0, none⟩) hlg).trans hg
  obtain ⟨_, e0, e1, e2, e3, e4, e5⟩ := HB.out.2.below hba
  have HA : Hid _ := And.intro hsa hbwa
  clear hk hw1 hw2 hw3 hw4 hwn hsa hba hbwa hg0
  go_wp2_with fail
  obtain ⟨hk, hw1, hw2, hw3, hw4, hwn⟩ := HP.out
  refine (sent_any (!ik) n m2 m3 m4 at2 g o c wa hga (hk.below HA.out.2) hwn hw2 hw3 hw4).mono ?_
  rintro e wb ⟨Nb, rfl, hsb, hbb⟩
  have HD : Hid _ := And.intro (HA.out.1.below hbb) (And.intro hsb (HA.out.2.trans (hbb.mono HA.out.2.size)))
  clear hk hw1 hw2 hw3 hw4 hwn hsb hbb HA HB e0 e1 e2 e3 e4 e5 hga HP
  go_wp2_with fail
  refine (kinds_any _).mono ?_
  rintro e wd ⟨rfl, hbd⟩
  have HE : Hid _ := And.intro (HD.out.1.below hbd) (And.intro (HD.out.2.1.below hbd) (HD.out.2.2.trans (hbd.mono HD.out.2.2.size)))
  clear hbd HD
  go_wp2_with fail
  have C1 : Below wd.heap.size wd (wd.alloc (.cells #[.string k1, .string k2, .string k3, .string k4] 26)) := (Below.refl _ _).alloc (Nat.le_refl _) _
  have C2 := C1.alloc C1.size (.cells #[.int .i64 m1, .int .i64 m2, .int .i64 m3, .int .i64 m4] 28)
  have D2 := (Below.refl _ (wd.alloc (.cells #[.string k1, .string k2, .string k3, .string k4] 26))).alloc (Nat.le_refl _) (.cells #[.int .i64 m1, .int .i64 m2, .int .i64 m3, .int .i64 m4] 28)
  have X1 := (Box4.made wd (fun j => .string (kindAt j)) (.string k1) (.string k2) (.string k3) (.string k4) 26 wd.heap.size rfl rfl rfl rfl rfl).below D2
  have X2 := Box4.made (wd.alloc (.cells #[.string k1, .string k2, .string k3, .string k4] 26)) (fun j => .int .i64 (valAt m1 m2 m3 m4 (j + 1))) (.int .i64 m1) (.int .i64 m2) (.int .i64 m3) (.int .i64 m4) 28 (wd.heap.size + 1) (by simp) rfl rfl rfl rfl
  have HF : Hid _ := And.intro X1 (And.intro X2 (And.intro (HE.out.1.below C2) (And.intro (HE.out.2.1.below C2) (HE.out.2.2.trans (C2.mono HE.out.2.2.size)))))
  clear C1 C2 D2 X1 X2 HE
  generalize (wd.alloc (.cells #[.string k1, .string k2, .string k3, .string k4] 26)).alloc (.cells #[.int .i64 m1, .int .i64 m2, .int .i64 m3, .int .i64 m4] 28) = W1 at *
  go_loopw [23] (fun i wr => ∃ k : Nat, k ≤ 4 ∧ i = .int .i64 k ∧ Below W1.heap.size W1 wr) (fun i _ => 4 - (intOf i).toNat)
  case atStart => exact ⟨0, Nat.zero_le _, rfl, Below.refl _ _⟩
  case round =>
    obtain ⟨k, hk4, rfl, hb⟩ := hrel
    by_cases hlt : k < 4
    · obtain ⟨X1, X2, S1, S2, _⟩ := HF.out
      have x1 : wr.cell? ⟨wd.heap.size, k, none⟩ = some (.string (kindAt k)) := (X1.below hb).2 k hlt
      have x2 : wr.cell? ⟨wd.heap.size + 1, k, none⟩ = some (.int .i64 (valAt m1 m2 m3 m4 (k + 1))) := (X2.below hb).2 k hlt
      obtain ⟨s1, t1⟩ := (S1.below hb).2 k hlt
      obtain ⟨s2, t2⟩ := (S2.below hb).2 k hlt
      have HBB : Hid _ := hb
      clear X1 X2 S1 S2 hb
      have hi0 : (0 : Int) ≤ (k : Int) := by omega
      have hi4 : (k : Int) < 4 := by omega
      by_cases hkw : k = 0
      · have hq : ((k : Int) == 0) = true := by rw [hkw]; rfl
        have hy : valAt n m2 m3 m4 (k + 1) = n := by rw [hkw]; rfl
        rw [hy] at t2
        have HK : Hid _ := And.intro hkw hy
        clear hkw hy
        generalize valAt m1 m2 m3 m4 (k + 1) = va at *
        generalize kindAt k = kn at *
        go_wp2
        go_quiet (fail)
        go_wp2
        go_roundw
        case rel => exact ⟨k + 1, by omega, by go_num, below_drewN HBB.out _⟩
        case measure => simp [intOf]; omega
      · have hq : ((k : Int) == 0) = false := by simp only [beq_eq_false_iff_ne, ne_eq]; omega
        have hy : valAt n m2 m3 m4 (k + 1) = valAt m1 m2 m3 m4 (k + 1) := by
          have hk4' : k = 0 ∨ k = 1 ∨ k = 2 ∨ k = 3 := by omega
          rcases hk4' with e | e | e | e <;> first | exact absurd e hkw | (rw [e]; rfl)
        rw [hy] at t2
        have HK : Hid _ := And.intro hkw hy
        clear hkw hy
        generalize valAt m1 m2 m3 m4 (k + 1) = va at *
        generalize kindAt k = kn at *
        go_wp2
        go_quiet (fail)
        go_wp2
        go_quiet (fail)
        go_wp2
        go_roundw
        case rel => exact ⟨k + 1, by omega, by go_num, below_drewN HBB.out _⟩
        case measure => simp [intOf]; omega
    · go_wp2
      go_ret
      exact ⟨rfl, HF.out.2.2.2.2.trans (hb.mono HF.out.2.2.2.2.size)⟩

set_option maxHeartbeats 1000000 in
set_option maxRecDepth 100000 in
theorem law_at1 (ik : Bool) (m1 m2 m3 m4 at' n : Int) (g o c : Nat) (w : World) (hg : w.cell? ⟨0, 0, none⟩ = some (.slice (some ⟨g, o, none⟩) 4 c)) (hk : KindsAt w g o)
    (hw1 : (Lit.int .i64 m1).wf = true) (hw2 : (Lit.int .i64 m2).wf = true) (hw3 : (Lit.int .i64 m3).wf = true) (hw4 : (Lit.int .i64 m4).wf = true) (hwn : (Lit.int .i64 n).wf = true) :
    Calls Tryd.prog 4 #[.bool ik, .int .i64 m1, .int .i64 m2, .int .i64 m3, .int .i64 m4, .int .i64 at', .int .i64 1, .int .i64 n] w fun e w' => e = .returned (.bool true) ∧ Below w.heap.size w w' := by
  have hlg : 0 < w.heap.size := World.block_lt_of_cell? _ _ hg
  have HP : Hid _ := And.intro hk (And.intro hw1 (And.intro hw2 (And.intro hw3 (And.intro hw4 hwn))))
  clear hk hw1 hw2 hw3 hw4 hwn
  go_enter Tryd.func4, Tryd.ntmps4
  go_wp2_with fail
  have A1 : Below w.heap.size w (w.alloc (.cells #[.bool ik, .int .i64 m1, .int .i64 m2, .int .i64 m3, .int .i64 m4, .int .i64 at'] 23)) := (Below.refl _ _).alloc (Nat.le_refl _) _
  have A2 := A1.alloc A1.size (.cells #[.bool !ik, .int .i64 m1, .int .i64 n, .int .i64 m3, .int .i64 m4, .int .i64 (bits BinOp.xor .i64 at' 1)] 23)
  have B2 := Box6.made (w.alloc (.cells #[.bool ik, .int .i64 m1, .int .i64 m2, .int .i64 m3, .int .i64 m4, .int .i64 at'] 23)) (.bool !ik) (.int .i64 m1) (.int .i64 n) (.int .i64 m3) (.int .i64 m4) (.int .i64 (bits BinOp.xor .i64 at' 1)) 23 (w.heap.size + 1) (by simp)
  have HB : Hid _ := And.intro A2 B2
  clear A1 A2 B2
  generalize (w.alloc (.cells #[.bool ik, .int .i64 m1, .int .i64 m2, .int .i64 m3, .int .i64 m4, .int .i64 at'] 23)).alloc (.cells #[.bool !ik, .int .i64 m1, .int .i64 n, .int .i64 m3, .int .i64 m4, .int .i64 (bits BinOp.xor .i64 at' 1)] 23) = W0 at *
  generalize bits BinOp.xor .i64 at' 1 = at2 at *
  obtain ⟨hk, hw1, hw2, hw3, hw4, hwn⟩ := HP.out
  have hg0 := (HB.out.1.cell (p := ⟨0, 0, none⟩) hlg).trans hg
  refine (sent_any ik m1 m2 m3 m4 at' g o c W0 hg0 (hk.below HB.out.1) hw1 hw2 hw3 hw4).mono ?_
  rintro e wa ⟨Na, rfl, hsa, hba⟩
  have hbwa := HB.out.1.trans (hba.mono HB.out.1.size)
  have hga := (hbwa.cell (p := ⟨0, 0, none⟩) hlg).trans hg
  obtain ⟨_, e0, e1, e2, e3, e4, e5⟩ := HB.out.2.below hba
  have HA : Hid _ := And.intro hsa hbwa
  clear hk hw1 hw2 hw3 hw4 hwn hsa hba hbwa hg0
  go_wp2_with fail
  obtain ⟨hk, hw1, hw2, hw3, hw4, hwn⟩ := HP.out
  refine (sent_any (!ik) m1 n m3 m4 at2 g o c wa hga (hk.below HA.out.2) hw1 hwn hw3 hw4).mono ?_
  rintro e wb ⟨Nb, rfl, hsb, hbb⟩
  have HD : Hid _ := And.intro (HA.out.1.below hbb) (And.intro hsb (HA.out.2.trans (hbb.mono HA.out.2.size)))
  clear hk hw1 hw2 hw3 hw4 hwn hsb hbb HA HB e0 e1 e2 e3 e4 e5 hga HP
  go_wp2_with fail
  refine (kinds_any _).mono ?_
  rintro e wd ⟨rfl, hbd⟩
  have HE : Hid _ := And.intro (HD.out.1.below hbd) (And.intro (HD.out.2.1.below hbd) (HD.out.2.2.trans (hbd.mono HD.out.2.2.size)))
  clear hbd HD
  go_wp2_with fail
  have C1 : Below wd.heap.size wd (wd.alloc (.cells #[.string k1, .string k2, .string k3, .string k4] 26)) := (Below.refl _ _).alloc (Nat.le_refl _) _
  have C2 := C1.alloc C1.size (.cells #[.int .i64 m1, .int .i64 m2, .int .i64 m3, .int .i64 m4] 28)
  have D2 := (Below.refl _ (wd.alloc (.cells #[.string k1, .string k2, .string k3, .string k4] 26))).alloc (Nat.le_refl _) (.cells #[.int .i64 m1, .int .i64 m2, .int .i64 m3, .int .i64 m4] 28)
  have X1 := (Box4.made wd (fun j => .string (kindAt j)) (.string k1) (.string k2) (.string k3) (.string k4) 26 wd.heap.size rfl rfl rfl rfl rfl).below D2
  have X2 := Box4.made (wd.alloc (.cells #[.string k1, .string k2, .string k3, .string k4] 26)) (fun j => .int .i64 (valAt m1 m2 m3 m4 (j + 1))) (.int .i64 m1) (.int .i64 m2) (.int .i64 m3) (.int .i64 m4) 28 (wd.heap.size + 1) (by simp) rfl rfl rfl rfl
  have HF : Hid _ := And.intro X1 (And.intro X2 (And.intro (HE.out.1.below C2) (And.intro (HE.out.2.1.below C2) (HE.out.2.2.trans (C2.mono HE.out.2.2.size)))))
  clear C1 C2 D2 X1 X2 HE
  generalize (wd.alloc (.cells #[.string k1, .string k2, .string k3, .string k4] 26)).alloc (.cells #[.int .i64 m1, .int .i64 m2, .int .i64 m3, .int .i64 m4] 28) = W1 at *
  go_loopw [23] (fun i wr => ∃ k : Nat, k ≤ 4 ∧ i = .int .i64 k ∧ Below W1.heap.size W1 wr) (fun i _ => 4 - (intOf i).toNat)
  case atStart => exact ⟨0, Nat.zero_le _, rfl, Below.refl _ _⟩
  case round =>
    obtain ⟨k, hk4, rfl, hb⟩ := hrel
    by_cases hlt : k < 4
    · obtain ⟨X1, X2, S1, S2, _⟩ := HF.out
      have x1 : wr.cell? ⟨wd.heap.size, k, none⟩ = some (.string (kindAt k)) := (X1.below hb).2 k hlt
      have x2 : wr.cell? ⟨wd.heap.size + 1, k, none⟩ = some (.int .i64 (valAt m1 m2 m3 m4 (k + 1))) := (X2.below hb).2 k hlt
      obtain ⟨s1, t1⟩ := (S1.below hb).2 k hlt
      obtain ⟨s2, t2⟩ := (S2.below hb).2 k hlt
      have HBB : Hid _ := hb
      clear X1 X2 S1 S2 hb
      have hi0 : (0 : Int) ≤ (k : Int) := by omega
      have hi4 : (k : Int) < 4 := by omega
      by_cases hkw : k = 1
      · have hq : ((k : Int) == 1) = true := by rw [hkw]; rfl
        have hy : valAt m1 n m3 m4 (k + 1) = n := by rw [hkw]; rfl
        rw [hy] at t2
        have HK : Hid _ := And.intro hkw hy
        clear hkw hy
        generalize valAt m1 m2 m3 m4 (k + 1) = va at *
        generalize kindAt k = kn at *
        go_wp2
        go_quiet (fail)
        go_wp2
        go_roundw
        case rel => exact ⟨k + 1, by omega, by go_num, below_drewN HBB.out _⟩
        case measure => simp [intOf]; omega
      · have hq : ((k : Int) == 1) = false := by simp only [beq_eq_false_iff_ne, ne_eq]; omega
        have hy : valAt m1 n m3 m4 (k + 1) = valAt m1 m2 m3 m4 (k + 1) := by
          have hk4' : k = 0 ∨ k = 1 ∨ k = 2 ∨ k = 3 := by omega
          rcases hk4' with e | e | e | e <;> first | exact absurd e hkw | (rw [e]; rfl)
        rw [hy] at t2
        have HK : Hid _ := And.intro hkw hy
        clear hkw hy
        generalize valAt m1 m2 m3 m4 (k + 1) = va at *
        generalize kindAt k = kn at *
        go_wp2
        go_quiet (fail)
        go_wp2
        go_quiet (fail)
        go_wp2
        go_roundw
        case rel => exact ⟨k + 1, by omega, by go_num, below_drewN HBB.out _⟩
        case measure => simp [intOf]; omega
    · go_wp2
      go_ret
      exact ⟨rfl, HF.out.2.2.2.2.trans (hb.mono HF.out.2.2.2.2.size)⟩

set_option maxHeartbeats 1000000 in
set_option maxRecDepth 100000 in
theorem law_at2 (ik : Bool) (m1 m2 m3 m4 at' n : Int) (g o c : Nat) (w : World) (hg : w.cell? ⟨0, 0, none⟩ = some (.slice (some ⟨g, o, none⟩) 4 c)) (hk : KindsAt w g o)
    (hw1 : (Lit.int .i64 m1).wf = true) (hw2 : (Lit.int .i64 m2).wf = true) (hw3 : (Lit.int .i64 m3).wf = true) (hw4 : (Lit.int .i64 m4).wf = true) (hwn : (Lit.int .i64 n).wf = true) :
    Calls Tryd.prog 4 #[.bool ik, .int .i64 m1, .int .i64 m2, .int .i64 m3, .int .i64 m4, .int .i64 at', .int .i64 2, .int .i64 n] w fun e w' => e = .returned (.bool true) ∧ Below w.heap.size w w' := by
  have hlg : 0 < w.heap.size := World.block_lt_of_cell? _ _ hg
  have HP : Hid _ := And.intro hk (And.intro hw1 (And.intro hw2 (And.intro hw3 (And.intro hw4 hwn))))
  clear hk hw1 hw2 hw3 hw4 hwn
  go_enter Tryd.func4, Tryd.ntmps4
  go_wp2_with fail
  have A1 : Below w.heap.size w (w.alloc (.cells #[.bool ik, .int .i64 m1, .int .i64 m2, .int .i64 m3, .int .i64 m4, .int .i64 at'] 23)) := (Below.refl _ _).alloc (Nat.le_refl _) _
  have A2 := A1.alloc A1.size (.cells #[.bool !ik, .int .i64 m1, .int .i64 m2, .int .i64 n, .int .i64 m4, .int .i64 (bits BinOp.xor .i64 at' 1)] 23)
  have B2 := Box6.made (w.alloc (.cells #[.bool ik, .int .i64 m1, .int .i64 m2, .int .i64 m3, .int .i64 m4, .int .i64 at'] 23)) (.bool !ik) (.int .i64 m1) (.int .i64 m2) (.int .i64 n) (.int .i64 m4) (.int .i64 (bits BinOp.xor .i64 at' 1)) 23 (w.heap.size + 1) (by simp)
  have HB : Hid _ := And.intro A2 B2
  clear A1 A2 B2
  generalize (w.alloc (.cells #[.bool ik, .int .i64 m1, .int .i64 m2, .int .i64 m3, .int .i64 m4, .int .i64 at'] 23)).alloc (.cells #[.bool !ik, .int .i64 m1, .int .i64 m2, .int .i64 n, .int .i64 m4, .int .i64 (bits BinOp.xor .i64 at' 1)] 23) = W0 at *
  generalize bits BinOp.xor .i64 at' 1 = at2 at *
  obtain ⟨hk, hw1, hw2, hw3, hw4, hwn⟩ := HP.out
  have hg0 := (HB.out.1.cell (p := ⟨0, 0, none⟩) hlg).trans hg
  refine (sent_any ik m1 m2 m3 m4 at' g o c W0 hg0 (hk.below HB.out.1) hw1 hw2 hw3 hw4).mono ?_
  rintro e wa ⟨Na, rfl, hsa, hba⟩
  have hbwa := HB.out.1.trans (hba.mono HB.out.1.size)
  have hga := (hbwa.cell (p := ⟨0, 0, none⟩) hlg).trans hg
  obtain ⟨_, e0, e1, e2, e3, e4, e5⟩ := HB.out.2.below hba
  have HA : Hid _ := And.intro hsa hbwa
  clear hk hw1 hw2 hw3 hw4 hwn hsa hba hbwa hg0
  go_wp2_with fail
  obtain ⟨hk, hw1, hw2, hw3, hw4, hwn⟩ := HP.out
  refine (sent_any (!ik) m1 m2 n m4 at2 g o c wa hga (hk.below HA.out.2) hw1 hw2 hwn hw4).mono ?_
  rintro e wb ⟨Nb, rfl, hsb, hbb⟩
  have HD : Hid _ := And.intro (HA.out.1.below hbb) (And.intro hsb (HA.out.2.trans (hbb.mono HA.out.2.size)))
  clear hk hw1 hw2 hw3 hw4 hwn hsb hbb HA HB e0 e1 e2 e3 e4 e5 hga HP
  go_wp2_with fail
  refine (kinds_any _).mono ?_
  rintro e wd ⟨rfl, hbd⟩
  have HE : Hid _ := And.intro (HD.out.1.below hbd) (And.intro (HD.out.2.1.below hbd) (HD.out.2.2.trans (hbd.mono HD.out.2.2.size)))
  clear hbd HD
  go_wp2_with fail
  have C1 : Below wd.heap.size wd (wd.alloc (.cells #[.string k1, .string k2, .string k3, .string k4] 26)) := (Below.refl _ _).alloc (Nat.le_refl _) _
  have C2 := C1.alloc C1.size (.cells #[.int .i64 m1, .int .i64 m2, .int .i64 m3, .int .i64 m4] 28)
  have D2 := (Below.refl _ (wd.alloc (.cells #[.string k1, .string k2, .string k3, .string k4] 26))).alloc (Nat.le_refl _) (.cells #[.int .i64 m1, .int .i64 m2, .int .i64 m3, .int .i64 m4] 28)
  have X1 := (Box4.made wd (fun j => .string (kindAt j)) (.string k1) (.string k2) (.string k3) (.string k4) 26 wd.heap.size rfl rfl rfl rfl rfl).below D2
  have X2 := Box4.made (wd.alloc (.cells #[.string k1, .string k2, .string k3, .string k4] 26)) (fun j => .int .i64 (valAt m1 m2 m3 m4 (j + 1))) (.int .i64 m1) (.int .i64 m2) (.int .i64 m3) (.int .i64 m4) 28 (wd.heap.size + 1) (by simp) rfl rfl rfl rfl
  have HF : Hid _ := And.intro X1 (And.intro X2 (And.intro (HE.out.1.below C2) (And.intro (HE.out.2.1.below C2) (HE.out.2.2.trans (C2.mono HE.out.2.2.size)))))
  clear C1 C2 D2 X1 X2 HE
  generalize (wd.alloc (.cells #[.string k1, .string k2, .string k3, .string k4] 26)).alloc (.cells #[.int .i64 m1, .int .i64 m2, .int .i64 m3, .int .i64 m4] 28) = W1 at *
  go_loopw [23] (fun i wr => ∃ k : Nat, k ≤ 4 ∧ i = .int .i64 k ∧ Below W1.heap.size W1 wr) (fun i _ => 4 - (intOf i).toNat)
  case atStart => exact ⟨0, Nat.zero_le _, rfl, Below.refl _ _⟩
  case round =>
    obtain ⟨k, hk4, rfl, hb⟩ := hrel
    by_cases hlt : k < 4
    · obtain ⟨X1, X2, S1, S2, _⟩ := HF.out
      have x1 : wr.cell? ⟨wd.heap.size, k, none⟩ = some (.string (kindAt k)) := (X1.below hb).2 k hlt
      have x2 : wr.cell? ⟨wd.heap.size + 1, k, none⟩ = some (.int .i64 (valAt m1 m2 m3 m4 (k + 1))) := (X2.below hb).2 k hlt
      obtain ⟨s1, t1⟩ := (S1.below hb).2 k hlt
      obtain ⟨s2, t2⟩ := (S2.below hb).2 k hlt
      have HBB : Hid _ := hb
      clear X1 X2 S1 S2 hb
      have hi0 : (0 : Int) ≤ (k : Int) := by omega
      have hi4 : (k : Int) < 4 := by omega
      by_cases hkw : k = 2
      · have hq : ((k : Int) == 2) = true := by rw [hkw]; rfl
        have hy : valAt m1 m2 n m4 (k + 1) = n := by rw [hkw]; rfl
        rw [hy] at t2
        have HK : Hid _ := And.intro hkw hy
        clear hkw hy
        generalize valAt m1 m2 m3 m4 (k + 1) = va at *
        generalize kindAt k = kn at *
        go_wp2
        go_quiet (fail)
        go_wp2
        go_roundw
        case rel => exact ⟨k + 1, by omega, by go_num, below_drewN HBB.out _⟩
        case measure => simp [intOf]; omega
      · have hq : ((k : Int) == 2) = false := by simp only [beq_eq_false_iff_ne, ne_eq]; omega
        have hy : valAt m1 m2 n m4 (k + 1) = valAt m1 m2 m3 m4 (k + 1) := by
          have hk4' : k = 0 ∨ k = 1 ∨ k = 2 ∨ k = 3 := by omega
          rcases hk4' with e | e | e | e <;> first | exact absurd e hkw | (rw [e]; rfl)
        rw [hy] at t2
        have HK : Hid _ := And.intro hkw hy
        clear hkw hy
        generalize valAt m1 m2 m3 m4 (k + 1) = va at *
        generalize kindAt k = kn at *
        go_wp2
        go_quiet (fail)
        go_wp2
        go_quiet (fail)
        go_wp2
        go_roundw
        case rel => exact ⟨k + 1, by omega, by go_num, below_drewN HBB.out _⟩
        case measure => simp [intOf]; omega
    · go_wp2
      go_ret
      exact ⟨rfl, HF.out.2.2.2.2.trans (hb.mono HF.out.2.2.2.2.size)⟩

set_option maxHeartbeats 1000000 in
set_option maxRecDepth 100000 in
theorem law_at3 (ik : Bool) (m1 m2 m3 m4 at' n : Int) (g o c : Nat) (w : World) (hg : w.cell? ⟨0, 0, none⟩ = some (.slice (some ⟨g, o, none⟩) 4 c)) (hk : KindsAt w g o)
    (hw1 : (Lit.int .i64 m1).wf = true) (hw2 : (Lit.int .i64 m2).wf = true) (hw3 : (Lit.int .i64 m3).wf = true) (hw4 : (Lit.int .i64 m4).wf = true) (hwn : (Lit.int .i64 n).wf = true) :
    Calls Tryd.prog 4 #[.bool ik, .int .i64 m1, .int .i64 m2, .int .i64 m3, .int .i64 m4, .int .i64 at', .int .i64 3, .int .i64 n] w fun e w' => e = .returned (.bool true) ∧ Below w.heap.size w w' := by
  have hlg : 0 < w.heap.size := World.block_lt_of_cell? _ _ hg
  have HP : Hid _ := And.intro hk (And.intro hw1 (And.intro hw2 (And.intro hw3 (And.intro hw4 hwn))))
  clear hk hw1 hw2 hw3 hw4 hwn
  go_enter Tryd.func4, Tryd.ntmps4
  go_wp2_with fail
  have A1 : Below w.heap.size w (w.alloc (.cells #[.bool ik, .int .i64 m1, .int .i64 m2, .int .i64 m3, .int .i64 m4, .int .i64 at'] 23)) := (Below.refl _ _).alloc (Nat.le_refl _) _
  have A2 := A1.alloc A1.size (.cells #[.bool !ik, .int .i64 m1, .int .i64 m2, .int .i64 m3, .int .i64 n, .int .i64 (bits BinOp.xor .i64 at' 1)] 23)
  have B2 := Box6.made (w.alloc (.cells #[.bool ik, .int .i64 m1, .int .i64 m2, .int .i64 m3, .int .i64 m4, .int .i64 at'] 23)) (.bool !ik) (.int .i64 m1) (.int .i64 m2) (.int .i64 m3) (.int .i64 n) (.int .i64 (bits BinOp.xor .i64 at' 1)) 23 (w.heap.size + 1) (by simp)
  have HB : Hid _ := And.intro A2 B2
  clear A1 A2 B2
  generalize (w.alloc (.cells #[.bool ik, .int .i64 m1, .int .i64 m2, .int .i64 m3, .int .i64 m4, .int .i64 at'] 23)).alloc (.cells #[.bool !ik, .int .i64 m1, .int .i64 m2, .int .i64 m3, .int .i64 n, .int .i64 (bits BinOp.xor .i64 at' 1)] 23) = W0 at *
  generalize bits BinOp.xor .i64 at' 1 = at2 at *
  obtain ⟨hk, hw1, hw2, hw3, hw4, hwn⟩ := HP.out
  have hg0 := (HB.out.1.cell (p := ⟨0, 0, none⟩) hlg).trans hg
  refine (sent_any ik m1 m2 m3 m4 at' g o c W0 hg0 (hk.below HB.out.1) hw1 hw2 hw3 hw4).mono ?_
  rintro e wa ⟨Na, rfl, hsa, hba⟩
  have hbwa := HB.out.1.trans (hba.mono HB.out.1.size)
  have hga := (hbwa.cell (p := ⟨0, 0, none⟩) hlg).trans hg
  obtain ⟨_, e0, e1, e2, e3, e4, e5⟩ := HB.out.2.below hba
  have HA : Hid _ := And.intro hsa hbwa
  clear hk hw1 hw2 hw3 hw4 hwn hsa hba hbwa hg0
  go_wp2_with fail
  obtain ⟨hk, hw1, hw2, hw3, hw4, hwn⟩ := HP.out
  refine (sent_any (!ik) m1 m2 m3 n at2 g o c wa hga (hk.below HA.out.2) hw1 hw2 hw3 hwn).mono ?_
  rintro e wb ⟨Nb, rfl, hsb, hbb⟩
  have HD : Hid _ := And.intro (HA.out.1.below hbb) (And.intro hsb (HA.out.2.trans (hbb.mono HA.out.2.size)))
  clear hk hw1 hw2 hw3 hw4 hwn hsb hbb HA HB e0 e1 e2 e3 e4 e5 hga HP
  go_wp2_with fail
  refine (kinds_any _).mono ?_
  rintro e wd ⟨rfl, hbd⟩
  have HE : Hid _ := And.intro (HD.out.1.below hbd) (And.intro (HD.out.2.1.below hbd) (HD.out.2.2.trans (hbd.mono HD.out.2.2.size)))
  clear hbd HD
  go_wp2_with fail
  have C1 : Below wd.heap.size wd (wd.alloc (.cells #[.string k1, .string k2, .string k3, .string k4] 26)) := (Below.refl _ _).alloc (Nat.le_refl _) _
  have C2 := C1.alloc C1.size (.cells #[.int .i64 m1, .int .i64 m2, .int .i64 m3, .int .i64 m4] 28)
  have D2 := (Below.refl _ (wd.alloc (.cells #[.string k1, .string k2, .string k3, .string k4] 26))).alloc (Nat.le_refl _) (.cells #[.int .i64 m1, .int .i64 m2, .int .i64 m3, .int .i64 m4] 28)
  have X1 := (Box4.made wd (fun j => .string (kindAt j)) (.string k1) (.string k2) (.string k3) (.string k4) 26 wd.heap.size rfl rfl rfl rfl rfl).below D2
  have X2 := Box4.made (wd.alloc (.cells #[.string k1, .string k2, .string k3, .string k4] 26)) (fun j => .int .i64 (valAt m1 m2 m3 m4 (j + 1))) (.int .i64 m1) (.int .i64 m2) (.int .i64 m3) (.int .i64 m4) 28 (wd.heap.size + 1) (by simp) rfl rfl rfl rfl
  have HF : Hid _ := And.intro X1 (And.intro X2 (And.intro (HE.out.1.below C2) (And.intro (HE.out.2.1.below C2) (HE.out.2.2.trans (C2.mono HE.out.2.2.size)))))
  clear C1 C2 D2 X1 X2 HE
  generalize (wd.alloc (.cells #[.string k1, .string k2, .string k3, .string k4] 26)).alloc (.cells #[.int .i64 m1, .int .i64 m2, .int .i64 m3, .int .i64 m4] 28) = W1 at *
  go_loopw [23] (fun i wr => ∃ k : Nat, k ≤ 4 ∧ i = .int .i64 k ∧ Below W1.heap.size W1 wr) (fun i _ => 4 - (intOf i).toNat)
  case atStart => exact ⟨0, Nat.zero_le _, rfl, Below.refl _ _⟩
  case round =>
    obtain ⟨k, hk4, rfl, hb⟩ := hrel
    by_cases hlt : k < 4
    · obtain ⟨X1, X2, S1, S2, _⟩ := HF.out
      have x1 : wr.cell? ⟨wd.heap.size, k, none⟩ = some (.string (kindAt k)) := (X1.below hb).2 k hlt
      have x2 : wr.cell? ⟨wd.heap.size + 1, k, none⟩ = some (.int .i64 (valAt m1 m2 m3 m4 (k + 1))) := (X2.below hb).2 k hlt
      obtain ⟨s1, t1⟩ := (S1.below hb).2 k hlt
      obtain ⟨s2, t2⟩ := (S2.below hb).2 k hlt
      have HBB : Hid _ := hb
      clear X1 X2 S1 S2 hb
      have hi0 : (0 : Int) ≤ (k : Int) := by omega
      have hi4 : (k : Int) < 4 := by omega
      by_cases hkw : k = 3
      · have hq : ((k : Int) == 3) = true := by rw [hkw]; rfl
        have hy : valAt m1 m2 m3 n (k + 1) = n := by rw [hkw]; rfl
        rw [hy] at t2
        have HK : Hid _ := And.intro hkw hy
        clear hkw hy
        generalize valAt m1 m2 m3 m4 (k + 1) = va at *
        generalize kindAt k = kn at *
        go_wp2
        go_quiet (fail)
        go_wp2
        go_roundw
        case rel => exact ⟨k + 1, by omega, by go_num, below_drewN HBB.out _⟩
        case measure => simp [intOf]; omega
      · have hq : ((k : Int) == 3) = false := by simp only [beq_eq_false_iff_ne, ne_eq]; omega
        have hy : valAt m1 m2 m3 n (k + 1) = valAt m1 m2 m3 m4 (k + 1) := by
          have hk4' : k = 0 ∨ k = 1 ∨ k = 2 ∨ k = 3 := by omega
          rcases hk4' with e | e | e | e <;> first | exact absurd e hkw | (rw [e]; rfl)
        rw [hy] at t2
        have HK : Hid _ := And.intro hkw hy
        clear hkw hy
        generalize valAt m1 m2 m3 m4 (k + 1) = va at *
        generalize kindAt k = kn at *
        go_wp2
        go_quiet (fail)
        go_wp2
        go_quiet (fail)
        go_wp2
        go_roundw
        case rel => exact ⟨k + 1, by omega, by go_num, below_drewN HBB.out _⟩
        case measure => simp [intOf]; omega
    · go_wp2
      go_ret
      exact ⟨rfl, HF.out.2.2.2.2.trans (hb.mono HF.out.2.2.2.2.size)⟩

set_option maxHeartbeats 1000000 in
set_option maxRecDepth 100000 in
theorem law_one (ik : Bool) (m1 m2 m3 m4 at' wh n : Int) (g o c : Nat) (w : World) (hg : w.cell? ⟨0, 0, none⟩ = some (.slice (some ⟨g, o, none⟩) 4 c)) (hk : KindsAt w g o)
    (hw1 : (Lit.int .i64 m1).wf = true) (hw2 : (Lit.int .i64 m2).wf = true) (hw3 : (Lit.int .i64 m3).wf = true) (hw4 : (Lit.int .i64 m4).wf = true) (hwn : (Lit.int .i64 n).wf = true) :
    Calls Tryd.prog 4 #[.bool ik, .int .i64 m1, .int .i64 m2, .int .i64 m3, .int .i64 m4, .int .i64 at', .int .i64 wh, .int .i64 n] w fun e w' => e = .returned (.bool true) ∧ Below w.heap.size w w' := by
  by_cases h0 : wh < 0
  · clear hk hw1 hw2 hw3 hw4 hwn
    go_enter Tryd.func4, Tryd.ntmps4
    go_wp2
    go_ret
    exact ⟨rfl, Below.refl _ _⟩
  by_cases h3 : 3 < wh
  · clear hk hw1 hw2 hw3 hw4 hwn
    go_enter Tryd.func4, Tryd.ntmps4
    go_wp2
    go_ret
    exact ⟨rfl, Below.refl _ _⟩
  have hcs : wh = 0 ∨ wh = 1 ∨ wh = 2 ∨ wh = 3 := by omega
  clear h0 h3
  rcases hcs with rfl | rfl | rfl | rfl
  · exact law_at0 ik m1 m2 m3 m4 at' n g o c w hg hk hw1 hw2 hw3 hw4 hwn
  · exact law_at1 ik m1 m2 m3 m4 at' n g o c w hg hk hw1 hw2 hw3 hw4 hwn
  · exact law_at2 ik m1 m2 m3 m4 at' n g o c w hg hk hw1 hw2 hw3 hw4 hwn
  · exact law_at3 ik m1 m2 m3 m4 at' n g o c w hg hk hw1 hw2 hw3 hw4 hwn
end Go.Proofs.Qxb6614550aDoor
