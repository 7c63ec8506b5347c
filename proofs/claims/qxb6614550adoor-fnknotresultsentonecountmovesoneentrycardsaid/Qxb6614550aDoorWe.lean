import Derived.Test.Qxb6614550aDoorWd
import Derived.Deep.QuietTactic
import Derived.BigQuiet
namespace Go.Proofs.Qxb6614550aDoor
open Go.RowKit Go.Maps Go.WideMaps

theorem valAt_add (a1 a2 a3 a4 b1 b2 b3 b4 : Int) (j : Nat) : valAt (wrap64 (a1 + b1)) (wrap64 (a2 + b2)) (wrap64 (a3 + b3)) (wrap64 (a4 + b4)) j = wrap64 (valAt a1 a2 a3 a4 j + valAt b1 b2 b3 b4 j) := by
  unfold valAt
  split
  · rfl
  split
  · rfl
  split <;> rfl

set_option maxHeartbeats 400000 in
set_option maxRecDepth 100000 in
theorem kinds_any (w : World) :
    Calls Tryd.prog 7 #[] w fun e w' => e = .returned (.agg #[.string k1, .string k2, .string k3, .string k4]) ∧ Below w.heap.size w w' := by
  go_enter Tryd.func7, Tryd.ntmps7
  go_wp2
  exact bodyPost_ret (v := .agg #[.string k1, .string k2, .string k3, .string k4]) (by simp [results, Tryd.results7, go_sem]) rfl ⟨rfl, (Below.refl _ _).alloc (Nat.le_refl _) _⟩

theorem wf_wrap64 (x : Int) : (Lit.int .i64 (wrap64 x)).wf = true := wrap64_wf x

/-- A KnotResult's variable. -/
def Box6 (w : World) (b : Nat) (x0 x1 x2 x3 x4 x5 : Value) : Prop :=
  b < w.heap.size ∧ w.cell? ⟨b, 0, none⟩ = some x0 ∧ w.cell? ⟨b, 1, none⟩ = some x1 ∧ w.cell? ⟨b, 2, none⟩ = some x2 ∧ w.cell? ⟨b, 3, none⟩ = some x3 ∧ w.cell? ⟨b, 4, none⟩ = some x4 ∧ w.cell? ⟨b, 5, none⟩ = some x5
theorem Box6.below {w w' : World} {b : Nat} {x0 x1 x2 x3 x4 x5 : Value} (h : Box6 w b x0 x1 x2 x3 x4 x5) (hb : Below w.heap.size w w') : Box6 w' b x0 x1 x2 x3 x4 x5 := by
  obtain ⟨hl, h0, h1, h2, h3, h4, h5⟩ := h
  have hc : ∀ j, w'.cell? ⟨b, j, none⟩ = w.cell? ⟨b, j, none⟩ := fun j => hb.cell (p := ⟨b, j, none⟩) hl
  exact ⟨Nat.lt_of_lt_of_le hl hb.size, by rw [hc]; exact h0, by rw [hc]; exact h1, by rw [hc]; exact h2, by rw [hc]; exact h3, by rw [hc]; exact h4, by rw [hc]; exact h5⟩
theorem Box6.made (w : World) (x0 x1 x2 x3 x4 x5 : Value) (t : TypeId) (b : Nat) (hb : b = w.heap.size) : Box6 (w.alloc (.cells #[x0, x1, x2, x3, x4, x5] t)) b x0 x1 x2 x3 x4 x5 := by
  subst hb
  have h := box6 w x0 x1 x2 x3 x4 x5 t
  exact ⟨by simp, h 0 _ rfl, h 1 _ rfl, h 2 _ rfl, h 3 _ rfl, h 4 _ rfl, h 5 _ rfl⟩
/-- An array of four. -/
def Box4 (w : World) (b : Nat) (f : Nat → Value) : Prop := b < w.heap.size ∧ ∀ j, j < 4 → w.cell? ⟨b, j, none⟩ = some (f j)
theorem Box4.below {w w' : World} {b : Nat} {f : Nat → Value} (h : Box4 w b f) (hb : Below w.heap.size w w') : Box4 w' b f :=
  ⟨Nat.lt_of_lt_of_le h.1 hb.size, fun j hj => (hb.cell (p := ⟨b, j, none⟩) h.1).trans (h.2 j hj)⟩
theorem Box4.made (w : World) (f : Nat → Value) (x0 x1 x2 x3 : Value) (t : TypeId) (b : Nat) (hb : b = w.heap.size) (h0 : f 0 = x0) (h1 : f 1 = x1) (h2 : f 2 = x2) (h3 : f 3 = x3) : Box4 (w.alloc (.cells #[x0, x1, x2, x3] t)) b f := by
  subst hb
  refine ⟨by simp, fun j hj => ?_⟩
  rw [cell_of_row _ _ _ _ _ _ (heap_alloc_new w _)]
  match j, hj with
  | 0, _ => rw [h0]; rfl
  | 1, _ => rw [h1]; rfl
  | 2, _ => rw [h2]; rfl
  | 3, _ => rw [h3]; rfl

set_option maxHeartbeats 1000000 in
set_option maxRecDepth 100000 in
theorem law_adds (ik : Bool) (m1 m2 m3 m4 at' b1 b2 b3 b4 : Int) (g o c : Nat) (w : World) (hg : w.cell? ⟨0, 0, none⟩ = some (.slice (some ⟨g, o, none⟩) 4 c)) (hk : KindsAt w g o)
    (hw1 : (Lit.int .i64 m1).wf = true) (hw2 : (Lit.int .i64 m2).wf = true) (hw3 : (Lit.int .i64 m3).wf = true) (hw4 : (Lit.int .i64 m4).wf = true)
    (hv1 : (Lit.int .i64 b1).wf = true) (hv2 : (Lit.int .i64 b2).wf = true) (hv3 : (Lit.int .i64 b3).wf = true) (hv4 : (Lit.int .i64 b4).wf = true) :
    Calls Tryd.prog 3 #[.bool ik, .int .i64 m1, .int .i64 m2, .int .i64 m3, .int .i64 m4, .int .i64 at', .int .i64 b1, .int .i64 b2, .int .i64 b3, .int .i64 b4] w fun e w' => e = .returned (.bool true) ∧ Below w.heap.size w w' := by
  have hlg : 0 < w.heap.size := World.block_lt_of_cell? _ _ hg
  have HP : Hid _ := And.intro hk (And.intro hw1 (And.intro hw2 (And.intro hw3 (And.intro hw4 (And.intro hv1 (And.intro hv2 (And.intro hv3 hv4)))))))
  clear hk hw1 hw2 hw3 hw4 hv1 hv2 hv3 hv4
  go_enter Tryd.func3, Tryd.ntmps3
  go_wp2_with fail
  have A1 : Below w.heap.size w (w.alloc (.cells #[.bool ik, .int .i64 m1, .int .i64 m2, .int .i64 m3, .int .i64 m4, .int .i64 at'] 23)) := (Below.refl _ _).alloc (Nat.le_refl _) _
  have A2 := A1.alloc A1.size (.cells #[.bool !ik, .int .i64 b1, .int .i64 b2, .int .i64 b3, .int .i64 b4, .int .i64 (wrap64 (at' + 1))] 23)
  have A3 := A2.alloc A2.size (.cells #[.bool ik, .int .i64 (wrap64 (m1 + b1)), .int .i64 (wrap64 (m2 + b2)), .int .i64 (wrap64 (m3 + b3)), .int .i64 (wrap64 (m4 + b4)), .int .i64 0] 23)
  have B2 := (Box6.made (w.alloc (.cells #[.bool ik, .int .i64 m1, .int .i64 m2, .int .i64 m3, .int .i64 m4, .int .i64 at'] 23)) (.bool !ik) (.int .i64 b1) (.int .i64 b2) (.int .i64 b3) (.int .i64 b4) (.int .i64 (wrap64 (at' + 1))) 23 (w.heap.size + 1) (by simp)).below
    ((Below.refl _ _).alloc (Nat.le_refl _) (.cells #[.bool ik, .int .i64 (wrap64 (m1 + b1)), .int .i64 (wrap64 (m2 + b2)), .int .i64 (wrap64 (m3 + b3)), .int .i64 (wrap64 (m4 + b4)), .int .i64 0] 23))
  have B3 := Box6.made ((w.alloc (.cells #[.bool ik, .int .i64 m1, .int .i64 m2, .int .i64 m3, .int .i64 m4, .int .i64 at'] 23)).alloc (.cells #[.bool !ik, .int .i64 b1, .int .i64 b2, .int .i64 b3, .int .i64 b4, .int .i64 (wrap64 (at' + 1))] 23))
    (.bool ik) (.int .i64 (wrap64 (m1 + b1))) (.int .i64 (wrap64 (m2 + b2))) (.int .i64 (wrap64 (m3 + b3))) (.int .i64 (wrap64 (m4 + b4))) (.int .i64 0) 23 (w.heap.size + 1 + 1) (by simp)
  have HB : Hid _ := And.intro A3 (And.intro B2 B3)
  clear A1 A2 A3 B2 B3
  generalize ((w.alloc (.cells #[.bool ik, .int .i64 m1, .int .i64 m2, .int .i64 m3, .int .i64 m4, .int .i64 at'] 23)).alloc (.cells #[.bool !ik, .int .i64 b1, .int .i64 b2, .int .i64 b3, .int .i64 b4, .int .i64 (wrap64 (at' + 1))] 23)).alloc
    (.cells #[.bool ik, .int .i64 (wrap64 (m1 + b1)), .int .i64 (wrap64 (m2 + b2)), .int .i64 (wrap64 (m3 + b3)), .int .i64 (wrap64 (m4 + b4)), .int .i64 0] 23) = W0 at *
  obtain ⟨hk, hw1, hw2, hw3, hw4, hv1, hv2, hv3, hv4⟩ := HP.out
  have hg0 := (HB.out.1.cell (p := ⟨0, 0, none⟩) hlg).trans hg
  refine (sent_any ik m1 m2 m3 m4 at' g o c W0 hg0 (hk.below HB.out.1) hw1 hw2 hw3 hw4).mono ?_
  rintro e wa ⟨Na, rfl, hsa, hba⟩
  have hbwa := HB.out.1.trans (hba.mono HB.out.1.size)
  have hga := (hbwa.cell (p := ⟨0, 0, none⟩) hlg).trans hg
  obtain ⟨_, e0, e1, e2, e3, e4, e5⟩ := HB.out.2.1.below hba
  have HA : Hid _ := And.intro hsa (And.intro hbwa (And.intro (HB.out.2.1.below hba) (HB.out.2.2.below hba)))
  clear hk hw1 hw2 hw3 hw4 hv1 hv2 hv3 hv4 hsa hba hbwa hg0
  go_wp2_with fail
  obtain ⟨hk, hw1, hw2, hw3, hw4, hv1, hv2, hv3, hv4⟩ := HP.out
  refine (sent_any (!ik) b1 b2 b3 b4 (wrap64 (at' + 1)) g o c wa hga (hk.below HA.out.2.1) hv1 hv2 hv3 hv4).mono ?_
  rintro e wb ⟨Nb, rfl, hsb, hbb⟩
  have hbwb := HA.out.2.1.trans (hbb.mono HA.out.2.1.size)
  have hgb := (hbwb.cell (p := ⟨0, 0, none⟩) hlg).trans hg
  clear e0 e1 e2 e3 e4 e5
  obtain ⟨_, e0, e1, e2, e3, e4, e5⟩ := HA.out.2.2.2.below hbb
  have HC : Hid _ := And.intro hsb (And.intro hbwb (HA.out.1.below hbb))
  clear hk hw1 hw2 hw3 hw4 hv1 hv2 hv3 hv4 hsb hbb hbwb hga HA HB
  go_wp2_with fail
  obtain ⟨hk, hw1, hw2, hw3, hw4, hv1, hv2, hv3, hv4⟩ := HP.out
  refine (sent_any ik (wrap64 (m1 + b1)) (wrap64 (m2 + b2)) (wrap64 (m3 + b3)) (wrap64 (m4 + b4)) 0 g o c wb hgb (hk.below HC.out.2.1) (wf_wrap64 _) (wf_wrap64 _) (wf_wrap64 _) (wf_wrap64 _)).mono ?_
  rintro e wc ⟨Nc, rfl, hsc, hbc⟩
  have HD : Hid _ := And.intro (HC.out.2.2.below hbc) (And.intro (HC.out.1.below hbc) (And.intro hsc (HC.out.2.1.trans (hbc.mono HC.out.2.1.size))))
  clear hk hw1 hw2 hw3 hw4 hv1 hv2 hv3 hv4 hsc hbc HC e0 e1 e2 e3 e4 e5 hgb HP
  go_wp2_with fail
  refine (kinds_any _).mono ?_
  rintro e wd ⟨rfl, hbd⟩
  have HE : Hid _ := And.intro (HD.out.1.below hbd) (And.intro (HD.out.2.1.below hbd) (And.intro (HD.out.2.2.1.below hbd) (HD.out.2.2.2.trans (hbd.mono HD.out.2.2.2.size))))
  clear hbd HD
  go_wp2_with fail
  have C1 : Below wd.heap.size wd (wd.alloc (.cells #[.string k1, .string k2, .string k3, .string k4] 26)) := (Below.refl _ _).alloc (Nat.le_refl _) _
  have C2 := C1.alloc C1.size (.cells #[.int .i64 m1, .int .i64 m2, .int .i64 m3, .int .i64 m4] 28)
  have C3 := C2.alloc C2.size (.cells #[.int .i64 b1, .int .i64 b2, .int .i64 b3, .int .i64 b4] 28)
  have D2 := (Below.refl _ (wd.alloc (.cells #[.string k1, .string k2, .string k3, .string k4] 26))).alloc (Nat.le_refl _) (.cells #[.int .i64 m1, .int .i64 m2, .int .i64 m3, .int .i64 m4] 28)
  have D3 := D2.alloc D2.size (.cells #[.int .i64 b1, .int .i64 b2, .int .i64 b3, .int .i64 b4] 28)
  have X1 := (Box4.made wd (fun j => .string (kindAt j)) (.string k1) (.string k2) (.string k3) (.string k4) 26 wd.heap.size rfl rfl rfl rfl rfl).below D3
  have X2 := (Box4.made (wd.alloc (.cells #[.string k1, .string k2, .string k3, .string k4] 26)) (fun j => .int .i64 (valAt m1 m2 m3 m4 (j + 1))) (.int .i64 m1) (.int .i64 m2) (.int .i64 m3) (.int .i64 m4) 28 (wd.heap.size + 1) (by simp) rfl rfl rfl rfl).below
    ((Below.refl _ _).alloc (Nat.le_refl _) (.cells #[.int .i64 b1, .int .i64 b2, .int .i64 b3, .int .i64 b4] 28))
  have X3 := Box4.made ((wd.alloc (.cells #[.string k1, .string k2, .string k3, .string k4] 26)).alloc (.cells #[.int .i64 m1, .int .i64 m2, .int .i64 m3, .int .i64 m4] 28)) (fun j => .int .i64 (valAt b1 b2 b3 b4 (j + 1))) (.int .i64 b1) (.int .i64 b2) (.int .i64 b3) (.int .i64 b4) 28 (wd.heap.size + 1 + 1) (by simp) rfl rfl rfl rfl
  have HF : Hid _ := And.intro X1 (And.intro X2 (And.intro X3 (And.intro (HE.out.1.below C3) (And.intro (HE.out.2.1.below C3) (And.intro (HE.out.2.2.1.below C3) (HE.out.2.2.2.trans (C3.mono HE.out.2.2.2.size)))))))
  clear C1 C2 C3 D2 D3 X1 X2 X3 HE
  generalize ((wd.alloc (.cells #[.string k1, .string k2, .string k3, .string k4] 26)).alloc (.cells #[.int .i64 m1, .int .i64 m2, .int .i64 m3, .int .i64 m4] 28)).alloc (.cells #[.int .i64 b1, .int .i64 b2, .int .i64 b3, .int .i64 b4] 28) = W1 at *
  go_loopw [30] (fun i wr => ∃ k : Nat, k ≤ 4 ∧ i = .int .i64 k ∧ Below W1.heap.size W1 wr) (fun i _ => 4 - (intOf i).toNat)
  case atStart => exact ⟨0, Nat.zero_le _, rfl, Below.refl _ _⟩
  case round =>
    obtain ⟨k, hk4, rfl, hb⟩ := hrel
    by_cases hlt : k < 4
    · obtain ⟨X1, X2, X3, S1, S2, S3, _⟩ := HF.out
      have x1 : wr.cell? ⟨wd.heap.size, k, none⟩ = some (.string (kindAt k)) := (X1.below hb).2 k hlt
      have x2 : wr.cell? ⟨wd.heap.size + 1, k, none⟩ = some (.int .i64 (valAt m1 m2 m3 m4 (k + 1))) := (X2.below hb).2 k hlt
      have x3 : wr.cell? ⟨wd.heap.size + 1 + 1, k, none⟩ = some (.int .i64 (valAt b1 b2 b3 b4 (k + 1))) := (X3.below hb).2 k hlt
      obtain ⟨s1, t1⟩ := (S1.below hb).2 k hlt
      obtain ⟨s2, t2⟩ := (S2.below hb).2 k hlt
      obtain ⟨s3, t3⟩ := (S3.below hb).2 k hlt
      have hadd := valAt_add m1 m2 m3 m4 b1 b2 b3 b4 (k + 1)
      rw [hadd] at t3
      have HBB : Hid _ := hb
      clear X1 X2 X3 S1 S2 S3 hadd hb
      generalize valAt m1 m2 m3 m4 (k + 1) = va at *
      generalize valAt b1 b2 b3 b4 (k + 1) = vb at *
      generalize kindAt k = kn at *
      have hi0 : (0 : Int) ≤ (k : Int) := by omega
      have hi4 : (k : Int) < 4 := by omega
      have hwq : IntKind.i64.wrap (va + vb) = wrap64 (va + vb) := by rw [IntKind.wrap_i64]; simp only [wrap64]
      go_wp2
      go_quiet (fail)
      go_wp2
      go_quiet (fail)
      go_wp2
      go_roundw
      case rel => exact ⟨k + 1, by omega, by go_num, below_drewN HBB.out _⟩
      case measure => simp [intOf]; omega
    · go_wp2
      go_ret
      exact ⟨rfl, HF.out.2.2.2.2.2.2.trans (hb.mono HF.out.2.2.2.2.2.2.size)⟩
end Go.Proofs.Qxb6614550aDoor
