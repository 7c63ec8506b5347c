import Derived.Test.Qxb6614540aWf
import Derived.Deep.DeepCutAuto
namespace Go.Proofs.Qxb6614540a
open Go.RowKit

set_option linter.unusedSimpArgs false in
set_option maxHeartbeats 1000000 in
set_option maxRecDepth 100000 in
theorem law_ins (self : Int) (s : ByteArray) (part : Int) (ro : Option Addr) (n c : Nat) (ID : Nat → Int) (Ad : Nat → ByteArray) (Pt : Nat → Int) (po : Option Addr) (np pc : Nat) (Z : Nat → Int) (pos : Int) (w : World)
    (hs : s.size ≤ maxLen) (hn : n ≤ maxLen) (hnp : np ≤ maxLen) (hr : RowsIn w ro n ID Ad Pt) (hp : PeersIn w po np Z) :
    Calls Try.prog 4 #[.int .u64 self, .string s, .int .u8 part, .slice ro n c, .slice po np pc, .int .i64 pos] w fun e w' => e = .returned (.bool true) ∧ Below w.heap.size w w' := by
  have hs' := hs
  unfold maxLen at hs'
  go_enter Try.func4, Try.ntmps4
  go_wp2_with fail
  refine (zzBytesIns_any self s part ro n c ID Ad Pt po np pc pos _ hs hn hr).mono ?_
  rintro e w ⟨⟨r, rfl, _⟩, rfl⟩
  cases r with
  | false =>
    go_wp2
    go_ret
    exact ⟨rfl, Below.refl _ _⟩
  | true =>
  go_wp2_with fail
  refine (tooBig_any ro n c ID Ad Pt po np pc _ _ hn hnp hr).mono ?_
  rintro e w ⟨⟨r, rfl, hsm⟩, rfl⟩
  cases r with
  | true =>
    go_wp2
    go_ret
    exact ⟨rfl, Below.refl _ _⟩
  | false =>
  obtain ⟨hn6, hp6⟩ := hsm rfl
  clear hsm
  go_wp2_with fail
  refine (clone_any po np pc Z _ hp6 hp).mono ?_
  rintro e w1 ⟨⟨pa, pl, pc2, rfl⟩, hb1⟩
  go_upto_if 34 with fail
  go_cut [5] (fun v wc => wc = w1 ∧ ∃ q : Int, v = .int .i64 q ∧ 0 ≤ q)
  case first =>
    go_wp2_with fail
    all_goals
      go_meet
      case rel => exact ⟨rfl, _, rfl, by omega⟩
  case rest =>
  obtain ⟨rfl, q, rfl, hq0⟩ := hcut
  go_upto_if 38 with fail
  go_cut [5] (fun v wc' => wc' = wc ∧ ∃ q : Int, v = .int .i64 q ∧ 0 ≤ q ∧ q ≤ n)
  case first =>
    go_wp2_with fail
    all_goals
      go_meet
      case rel => exact ⟨rfl, _, rfl, by omega, by omega⟩
  case rest =>
  clear hq0 q
  obtain ⟨rfl, q, rfl, hq0, hq1⟩ := hcut
  go_wp2_with fail
  refine (empty_any self pa pl pc2 _).mono ?_
  rintro e wa ⟨rfl, hga⟩
  have hbW : Below w.heap.size w wa := hb1.grown hga hb1.size (fun k hk => by cases hk)
  go_wp2_with fail
  refine (rows_any self none 0 0 pa pl pc2 ro n c ID Ad Pt _ _ wa.heap.size [] w wa (World.ownsRow_nil _ _ _ _) (by omega) hn6 (Nat.le_refl _) hbW.size hbW hr (by omega) (by omega) (by omega)).mono ?_
  rintro e wb ⟨a1, c1, rfl, ho1, hk1⟩
  have hm1 : 0 + (Int.toNat ↑n - Int.toNat 0) ≤ maxLen := by unfold maxLen; omega
  generalize 0 + (Int.toNat ↑n - Int.toNat 0) = m1 at *
  have hbB : Below w.heap.size w wb := hbW.trans (hk1.1.mono hbW.size)
  have hb2 : Below w.heap.size w (wb.alloc (.cells #[.int .u64 self, .slice a1 m1 c1, .slice pa pl pc2] 31)) := hbB.alloc hbB.size _
  have hx1 : (wb.alloc (.cells #[.int .u64 self, .slice a1 m1 c1, .slice pa pl pc2] 31)).heap[wb.heap.size]? = some (.cells #[.int .u64 self, .slice a1 m1 c1, .slice pa pl pc2] 31) := heap_alloc_new _ _
  have H1 : Hid _ := And.intro (rows_of_own (ho1.alloc (.cells #[.int .u64 self, .slice a1 m1 c1, .slice pa pl pc2] 31))) hx1
  clear hga hbW ho1 hk1 hx1 hbB
  go_wp2_with fail
  generalize wb.alloc (.cells #[.int .u64 self, .slice a1 m1 c1, .slice pa pl pc2] 31) = W1 at *
  refine (empty_any self pa pl pc2 _).mono ?_
  rintro e wd ⟨rfl, hgd⟩
  have hbd : Below w.heap.size w wd := hb2.grown hgd hb2.size (fun k hk => by cases hk)
  have hbd1 : Below W1.heap.size W1 wd := (Below.refl _ _).grown hgd (Nat.le_refl _) (fun k hk => by cases hk)
  go_wp2_with fail
  refine (rows_any self none 0 0 pa pl pc2 ro n c ID Ad Pt _ _ wd.heap.size [] w wd (World.ownsRow_nil _ _ _ _) (by omega) hn6 (Nat.le_refl _) hbd.size hbd hr (by omega) (by omega) (by omega)).mono ?_
  rintro e we ⟨a2, c2, rfl, ho2, hk2⟩
  have hm2 : 0 + (q.toNat - Int.toNat 0) ≤ n := by omega
  generalize 0 + (q.toNat - Int.toNat 0) = m2 at *
  generalize ([] : List (Int × ByteArray × Int)) ++ seg ID Ad Pt (Int.toNat 0) (q.toNat - Int.toNat 0) = l2 at *
  have hbe : Below w.heap.size w we := hbd.trans (hk2.1.mono hbd.size)
  have hbe1 : Below W1.heap.size W1 we := hbd1.trans (hk2.1.mono hbd1.size)
  have hoe := ho2.alloc (.cells #[.int .u64 self, .slice a2 m2 c2, .slice pa pl pc2] 31)
  have hse : wd.heap.size ≤ we.heap.size := hk2.1.size
  have hwd : w.heap.size ≤ wd.heap.size := hbd.size
  have hwd1 : W1.heap.size ≤ wd.heap.size := hbd1.size
  have HE : Hid _ := And.intro hoe (And.intro hbe hbe1)
  clear hgd hbd hbd1 ho2 hk2 hbe hbe1 hb2 hoe
  go_wp2_with fail
  refine (add_any self a2 m2 c2 pa pl pc2 self s part wd.heap.size _ _ HE.out.1 (by omega) (by simp; omega)).mono ?_
  rintro e wf ⟨a3, c3, rfl, ho3, hg3⟩
  have hk3 := Keeps.of_grown hg3 HE.out.1 (by simp; omega)
  have hx3 := hk3.2 _ _ (heap_alloc_new we _)
  obtain ⟨⟨g0, g1, g2⟩, gz⟩ := box3 hx3
  rw [← cellsOf_snoc] at ho3
  have hsf : we.heap.size + 1 ≤ wf.heap.size := by have := hk3.1.size; simpa using this
  have hne3 := own_ne_box ho3 (by decide) hx3
  have ho3' := own_set3 ho3 hne3 (.int .u64 self) (.slice a3 (m2 + 1) c3) (.slice pa pl pc2)
  have hx3' := box3_set hx3 (.int .u64 self) (.slice a3 (m2 + 1) c3) (.slice pa pl pc2)
  have hbf : Below w.heap.size w (((wf.setCell ⟨we.heap.size, 0, none⟩ (.int .u64 self)).setCell ⟨we.heap.size, 1, none⟩ (.slice a3 (m2 + 1) c3)).setCell ⟨we.heap.size, 2, none⟩ (.slice pa pl pc2)) :=
    ((((HE.out.2.1.alloc HE.out.2.1.size _).trans (hk3.1.mono hwd)).setCell (p := ⟨we.heap.size, 0, none⟩) HE.out.2.1.size _).setCell (p := ⟨we.heap.size, 1, none⟩) HE.out.2.1.size _).setCell (p := ⟨we.heap.size, 2, none⟩) HE.out.2.1.size _
  have hbf1 : Below W1.heap.size W1 (((wf.setCell ⟨we.heap.size, 0, none⟩ (.int .u64 self)).setCell ⟨we.heap.size, 1, none⟩ (.slice a3 (m2 + 1) c3)).setCell ⟨we.heap.size, 2, none⟩ (.slice pa pl pc2)) :=
    ((((HE.out.2.2.alloc HE.out.2.2.size _).trans (hk3.1.mono hwd1)).setCell (p := ⟨we.heap.size, 0, none⟩) HE.out.2.2.size _).setCell (p := ⟨we.heap.size, 1, none⟩) HE.out.2.2.size _).setCell (p := ⟨we.heap.size, 2, none⟩) HE.out.2.2.size _
  have HF : Hid _ := And.intro ho3' (And.intro hx3' (And.intro hbf hbf1))
  clear ho3 hg3 hk3 hx3 ho3' hx3' hbf hbf1 hne3 HE
  go_wp2_with fail
  generalize hWf : (((wf.setCell ⟨we.heap.size, 0, none⟩ (.int .u64 self)).setCell ⟨we.heap.size, 1, none⟩ (.slice a3 (m2 + 1) c3)).setCell ⟨we.heap.size, 2, none⟩ (.slice pa pl pc2)) = Wf at *
  have hszf : wf.heap.size = Wf.heap.size := by rw [← hWf]; simp
  clear hWf g0 g1 g2 gz
  refine (rows_any self a3 (m2 + 1) c3 pa pl pc2 ro n c ID Ad Pt _ _ wd.heap.size _ w Wf HF.out.1 (by omega) hn6 (by omega) hwd HF.out.2.2.1 hr (by omega) (by omega) (by omega)).mono ?_
  rintro e wg ⟨a4, c4, rfl, ho4, hk4⟩
  have hm4 : m2 + 1 + (Int.toNat ↑n - q.toNat) ≤ maxLen := by unfold maxLen; omega
  generalize m2 + 1 + (Int.toNat ↑n - q.toNat) = m4 at *
  have hx4 := hk4.2 _ _ HF.out.2.1
  obtain ⟨⟨g0, g1, g2⟩, gz⟩ := box3 hx4
  have hgsz : Wf.heap.size ≤ wg.heap.size := hk4.1.size
  have ho4' := own_set3 ho4 (own_ne_box ho4 (by decide) hx4) (.int .u64 self) (.slice a4 m4 c4) (.slice pa pl pc2)
  have hx4' := box3_set hx4 (.int .u64 self) (.slice a4 m4 c4) (.slice pa pl pc2)
  have hb4 : Below w.heap.size w (((wg.setCell ⟨we.heap.size, 0, none⟩ (.int .u64 self)).setCell ⟨we.heap.size, 1, none⟩ (.slice a4 m4 c4)).setCell ⟨we.heap.size, 2, none⟩ (.slice pa pl pc2)) :=
    (((HF.out.2.2.1.trans (hk4.1.mono hwd)).setCell (p := ⟨we.heap.size, 0, none⟩) (Nat.le_trans hwd hse) _).setCell (p := ⟨we.heap.size, 1, none⟩) (Nat.le_trans hwd hse) _).setCell (p := ⟨we.heap.size, 2, none⟩) (Nat.le_trans hwd hse) _
  have hb41 : Below W1.heap.size W1 (((wg.setCell ⟨we.heap.size, 0, none⟩ (.int .u64 self)).setCell ⟨we.heap.size, 1, none⟩ (.slice a4 m4 c4)).setCell ⟨we.heap.size, 2, none⟩ (.slice pa pl pc2)) :=
    (((HF.out.2.2.2.trans (hk4.1.mono hwd1)).setCell (p := ⟨we.heap.size, 0, none⟩) (Nat.le_trans hwd1 hse) _).setCell (p := ⟨we.heap.size, 1, none⟩) (Nat.le_trans hwd1 hse) _).setCell (p := ⟨we.heap.size, 2, none⟩) (Nat.le_trans hwd1 hse) _
  have H2 : Hid _ := And.intro (rows_of_own ho4') hx4'
  have H3 : Hid _ := And.intro hb4 hb41
  clear ho4 hk4 hx4 ho4' hx4' hb4 hb41 HF
  go_wp2_with fail
  generalize (((wg.setCell ⟨we.heap.size, 0, none⟩ (.int .u64 self)).setCell ⟨we.heap.size, 1, none⟩ (.slice a4 m4 c4)).setCell ⟨we.heap.size, 2, none⟩ (.slice pa pl pc2)) = W2 at *
  clear g0 g1 g2 gz
  refine (empty_any self pa pl pc2 _).mono ?_
  rintro e wh ⟨rfl, hgh⟩
  have hbh2 : Below W2.heap.size W2 wh := (Below.refl _ _).grown hgh (Nat.le_refl _) (fun k hk => by cases hk)
  have hbh : Below w.heap.size w wh := H3.out.1.trans (hbh2.mono H3.out.1.size)
  have hbh1 : Below W1.heap.size W1 wh := H3.out.2.trans (hbh2.mono H3.out.2.size)
  have HH : Hid _ := And.intro hbh (And.intro hbh1 hbh2)
  clear hgh hbh2 hbh1 H3 hbh
  go_wp2_with fail
  go_loopw [16, 17] (fun kp i wr => ∃ (k : Nat) (ao' : Option Addr) (cap' : Nat), k ≤ n ∧ i = .int .i64 k ∧ kp = .int .i64 (keptL self ID Ad Pt k).length ∧
      wr.heap[wh.heap.size]? = some (.cells #[.int .u64 self, .slice ao' (keptL self ID Ad Pt k).length cap', .slice pa pl pc2] 31) ∧
      wr.ownsRow wh.heap.size 73 3 (.slice ao' (keptL self ID Ad Pt k).length cap') (keptL self ID Ad Pt k).length (cellsOf (keptL self ID Ad Pt k)) ∧ Keeps wh.heap.size wh wr) (fun _ i _ => n - (intOf i).toNat)
  case atStart => exact ⟨0, none, 0, Nat.zero_le _, rfl, rfl, heap_alloc_new _ _, World.ownsRow_nil _ _ _ _, (Keeps.refl _ _).alloc (Nat.le_refl _) _⟩
  case round =>
    obtain ⟨k, ao', cap', hk, rfl, rfl, hbx, ho, hkp⟩ := hrel
    have hle := kept_le self ID Ad Pt k
    have hsz := lt_of_block hbx
    obtain ⟨⟨e0, e1, e2⟩, f2⟩ := box3 hbx
    by_cases hlt : k < n
    · obtain ⟨b, off, rfl, hbb, c0, c1, c2⟩ := (hr.below (HH.out.1.trans (hkp.1.mono HH.out.1.size))) k hlt
      obtain ⟨b', off', e', hbb', _⟩ := hr k hlt
      have hb3 : b < wh.heap.size := by cases e'; have := HH.out.1.size; omega
      clear e' hbb'
      by_cases heq : ID k = self
      · have q1 : (ID k != self) = false := by simp [heq]
        have HK : Hid _ := kept_no self ID Ad Pt k heq
        have HX : Hid _ := And.intro hbx (And.intro ho hkp)
        clear heq hbx ho hkp hr
        go_wp2
        go_roundw
        case rel => exact ⟨k + 1, ao', cap', by omega, by go_num, by rw [HK.out], by rw [HK.out]; exact HX.out.1, by rw [HK.out]; exact HX.out.2.1, HX.out.2.2⟩
        case measure => simp [intOf]; omega
      · have q1 : (ID k != self) = true := by simp [heq]
        have HK : Hid _ := kept_yes self ID Ad Pt k heq
        have hNb : ¬ wh.heap.size = b := by omega
        have HX : Hid _ := And.intro hbx (And.intro ho hkp)
        clear heq hbx ho hkp hr
        generalize hkl : keptL self ID Ad Pt k = kl at *
        have hkr : (k : Int) < (n : Int) := by omega
        clear hkl
        have hok : wr.drew.ownsRow wh.heap.size 73 3 (.slice ao' kl.length cap') kl.length (cellsOf kl) := HX.out.2.1
        have HO : Hid _ := hok
        clear hok
        go_wp2
        refine wp_region_noPanic ?_
        refine wp_region_held_drew (S := fun w' => w'.cell? ⟨b, off + k * 3, none⟩ = some (.int .u64 (ID k)) ∧ w'.cell? ⟨b, off + k * 3 + 1, none⟩ = some (.string (Ad k)) ∧ w'.cell? ⟨b, off + k * 3 + 2, none⟩ = some (.int .u8 (Pt k))) (by kernel_rfl) ⟨c0, c1, c2⟩ (fun hHeld => ?_)
        refine wpAnyH_take (i := 1) (oi := _) (v := ?_) rfl (by kernel_rfl) (by kernel_rfl) (by kernel_rfl) (fun _ _ _ h => h) (Or.inl ⟨by rfl, ?_⟩) hHeld ?_
        rotate_left
        · intro w hSw; obtain ⟨q0, q1, q2⟩ := hSw; go_simp; try (with_reducible rfl)
        try simp only [Act.put, List.setIfInBounds_toArray, List.set_cons_zero, List.set_cons_succ]
        refine wpAnyH_take (i := 2) (oi := _) (v := ?_) rfl (by kernel_rfl) (by kernel_rfl) (by kernel_rfl) (fun _ _ _ h => h) (Or.inl ⟨by rfl, ?_⟩) hHeld ?_
        rotate_left
        · intro w hSw; obtain ⟨q0, q1, q2⟩ := hSw; go_simp; try (with_reducible rfl)
        try simp only [Act.put, List.setIfInBounds_toArray, List.set_cons_zero, List.set_cons_succ]
        refine wpAnyH_take (i := 3) (oi := _) (v := ?_) rfl (by kernel_rfl) (by kernel_rfl) (by kernel_rfl) (fun _ _ _ h => h) (Or.inl ⟨by rfl, ?_⟩) hHeld ?_
        rotate_left
        · intro w hSw; obtain ⟨q0, q1, q2⟩ := hSw; go_simp; try (with_reducible rfl)
        try simp only [Act.put, List.setIfInBounds_toArray, List.set_cons_zero, List.set_cons_succ]
        refine wpAnyH_take (i := 4) (oi := _) (v := ?_) rfl (by kernel_rfl) (by kernel_rfl) (by kernel_rfl) (fun _ _ _ h => h) (Or.inl ⟨by rfl, ?_⟩) hHeld ?_
        rotate_left
        · intro w hSw; obtain ⟨q0, q1, q2⟩ := hSw; go_simp; try (with_reducible rfl)
        try simp only [Act.put, List.setIfInBounds_toArray, List.set_cons_zero, List.set_cons_succ]
        refine wpAnyH_take (i := 5) (oi := _) (v := ?_) rfl (by kernel_rfl) (by kernel_rfl) (by kernel_rfl) (fun _ _ _ h => h) (Or.inl ⟨by rfl, ?_⟩) hHeld ?_
        rotate_left
        · intro w hSw; obtain ⟨q0, q1, q2⟩ := hSw; go_simp; try (with_reducible rfl)
        try simp only [Act.put, List.setIfInBounds_toArray, List.set_cons_zero, List.set_cons_succ]
        refine wpAnyH_take (i := 6) (oi := _) (v := ?_) rfl (by kernel_rfl) (by kernel_rfl) (by kernel_rfl) (fun _ _ _ h => h) (Or.inl ⟨by rfl, ?_⟩) hHeld ?_
        rotate_left
        · intro w hSw; obtain ⟨q0, q1, q2⟩ := hSw; go_simp; try (with_reducible rfl)
        try simp only [Act.put, List.setIfInBounds_toArray, List.set_cons_zero, List.set_cons_succ]
        refine wpAnyH_take (i := 7) (oi := _) (v := ?_) rfl (by kernel_rfl) (by kernel_rfl) (by kernel_rfl) (fun _ _ _ h => h) (Or.inl ⟨by rfl, ?_⟩) hHeld ?_
        rotate_left
        · intro w hSw; obtain ⟨q0, q1, q2⟩ := hSw; go_simp; try (with_reducible rfl)
        try simp only [Act.put, List.setIfInBounds_toArray, List.set_cons_zero, List.set_cons_succ]
        refine wpAnyH_take (i := 8) (oi := _) (v := ?_) rfl (by kernel_rfl) (by kernel_rfl) (by kernel_rfl) (fun _ _ _ h => h) (Or.inl ⟨by rfl, ?_⟩) hHeld ?_
        rotate_left
        · intro w hSw; obtain ⟨q0, q1, q2⟩ := hSw; go_simp; try (with_reducible rfl)
        try simp only [Act.put, List.setIfInBounds_toArray, List.set_cons_zero, List.set_cons_succ]
        refine wpAnyH_take (i := 9) (oi := _) (v := ?_) rfl (by kernel_rfl) (by kernel_rfl) (by kernel_rfl) (fun _ _ _ h => h) (Or.inl ⟨by rfl, ?_⟩) hHeld ?_
        rotate_left
        · intro w hSw; obtain ⟨q0, q1, q2⟩ := hSw; go_simp; try (with_reducible rfl)
        try simp only [Act.put, List.setIfInBounds_toArray, List.set_cons_zero, List.set_cons_succ]
        refine wpAnyH_take (i := 10) (oi := _) (v := ?_) rfl (by kernel_rfl) (by kernel_rfl) (by kernel_rfl) (fun _ _ _ h => h) (Or.inl ⟨by rfl, ?_⟩) hHeld ?_
        rotate_left
        · intro w hSw; obtain ⟨q0, q1, q2⟩ := hSw; go_simp; try (with_reducible rfl)
        try simp only [Act.put, List.setIfInBounds_toArray, List.set_cons_zero, List.set_cons_succ]
        refine wpAnyH_take (i := 11) (oi := _) (v := ?_) rfl (by kernel_rfl) (by kernel_rfl) (by kernel_rfl) (fun _ _ _ h => h) (Or.inl ⟨by rfl, ?_⟩) hHeld ?_
        rotate_left
        · intro w hSw; obtain ⟨q0, q1, q2⟩ := hSw; go_simp; try (with_reducible rfl)
        try simp only [Act.put, List.setIfInBounds_toArray, List.set_cons_zero, List.set_cons_succ]
        refine wpAnyH_take (i := 12) (oi := _) (v := ?_) rfl (by kernel_rfl) (by kernel_rfl) (by kernel_rfl) (fun _ _ _ h => h) (Or.inl ⟨by rfl, ?_⟩) hHeld ?_
        rotate_left
        · intro w hSw; obtain ⟨q0, q1, q2⟩ := hSw; go_simp; try (with_reducible rfl)
        try simp only [Act.put, List.setIfInBounds_toArray, List.set_cons_zero, List.set_cons_succ]
        refine wpAnyH_take (i := 13) (oi := _) (v := ?_) rfl (by kernel_rfl) (by kernel_rfl) (by kernel_rfl) (fun _ _ _ h => h) (Or.inl ⟨by rfl, ?_⟩) hHeld ?_
        rotate_left
        · intro w hSw; obtain ⟨q0, q1, q2⟩ := hSw; go_simp; try (with_reducible rfl)
        try simp only [Act.put, List.setIfInBounds_toArray, List.set_cons_zero, List.set_cons_succ]
        refine wpAnyH_take (i := 14) (oi := _) (v := ?_) rfl (by kernel_rfl) (by kernel_rfl) (by kernel_rfl) (fun _ _ _ h => h) (Or.inl ⟨by rfl, ?_⟩) hHeld ?_
        rotate_left
        · intro w hSw; obtain ⟨q0, q1, q2⟩ := hSw; go_simp; try (with_reducible rfl)
        try simp only [Act.put, List.setIfInBounds_toArray, List.set_cons_zero, List.set_cons_succ]
        refine wpAnyH_take (i := 15) (oi := _) (v := ?_) rfl (by kernel_rfl) (by kernel_rfl) (by kernel_rfl) (fun _ _ _ h => h) (Or.inl ⟨by rfl, ?_⟩) hHeld ?_
        rotate_left
        · intro w hSw; obtain ⟨q0, q1, q2⟩ := hSw; go_simp; try (with_reducible rfl)
        try simp only [Act.put, List.setIfInBounds_toArray, List.set_cons_zero, List.set_cons_succ]
        refine wpAnyH_ready (rs := [0]) (by kernel_rfl) (by simp) ?_
        refine AllReadyH.cons (o := _) rfl (fun K hK => ?_) AllReadyH.nil
        go_simp
        refine hK.out _ _ hHeld (fun hHeld => ?_)
        clear hK K
        try simp only [Act.put, List.setIfInBounds_toArray, List.set_cons_zero, List.set_cons_succ]
        refine wpAnyH_ready (rs := [16]) (by kernel_rfl) (by simp) ?_
        refine AllReadyH.cons (o := _) rfl (fun K hK => ?_) AllReadyH.nil
        go_simp
        refine (add_any self ao' kl.length cap' pa pl pc2 (ID k) (Ad k) (Pt k) wh.heap.size _ _ HO.out (by omega) (Nat.le_of_lt hsz)).mono ?_
        rintro e w' ⟨a5, k5, rfl, ho2, hg2⟩
        have hk2 := Keeps.of_grown hg2 HO.out (Nat.le_of_lt hsz)
        have hbx2 := hk2.2 _ _ HX.out.1
        obtain ⟨⟨g0, g1, g2⟩, gz⟩ := box3 hbx2
        have d0 : w'.cell? ⟨b, off + k * 3, none⟩ = some (.int .u64 (ID k)) := (hk2.1.cell (p := ⟨b, _, none⟩) hb3).trans c0
        have d1 : w'.cell? ⟨b, off + k * 3 + 1, none⟩ = some (.string (Ad k)) := (hk2.1.cell (p := ⟨b, _, none⟩) hb3).trans c1
        have d2 : w'.cell? ⟨b, off + k * 3 + 2, none⟩ = some (.int .u8 (Pt k)) := (hk2.1.cell (p := ⟨b, _, none⟩) hb3).trans c2
        have HQ : Hid _ := And.intro ho2 (And.intro hk2 hbx2)
        clear ho2 hg2 hk2 hbx2
        go_wp2_with fail
        refine hK.out _ _ ⟨d0, d1, d2⟩ (fun hHeld => ?_)
        clear hK K
        try simp only [Act.put, List.setIfInBounds_toArray, List.set_cons_zero, List.set_cons_succ]
        refine wpAnyH_ready (rs := [17]) (by kernel_rfl) (by simp) ?_
        refine AllReadyH.cons (o := _) rfl (fun K hK => ?_) AllReadyH.nil
        go_simp
        refine hK.out _ _ (by go_keep) (fun hHeld => ?_)
        clear hK K
        try simp only [Act.put, List.setIfInBounds_toArray, List.set_cons_zero, List.set_cons_succ]
        refine wpAnyH_done (by kernel_rfl) ?_ _
        refine NoPanic.normal ?_
        go_wp2
        go_roundw
        case rel =>
          have em : (keptL self ID Ad Pt (k + 1)).length = kl.length + 1 := by rw [HK.out]; simp
          refine ⟨k + 1, a5, k5, by omega, by go_num, by rw [em]; go_num, ?_, ?_, ?_⟩
          · rw [em]; exact box3_set HQ.out.2.2 _ _ _
          · rw [em, HK.out, cellsOf_snoc]; exact own_set3 HQ.out.1 (own_ne_box HQ.out.1 (by decide) HQ.out.2.2) _ _ _
          · exact (HX.out.2.2.drew.trans HQ.out.2.1).set3 (Nat.le_refl _) (Nat.le_refl _) _ _ _
        case measure => simp [intOf]; omega
    · have ek : k = n := by omega
      subst ek
      have hkr2 : Below W2.heap.size W2 wr := HH.out.2.2.trans (hkp.1.mono HH.out.2.2.size)
      have hkr1 : Below W1.heap.size W1 wr := HH.out.2.1.trans (hkp.1.mono HH.out.2.1.size)
      have hx2 := (hkr2.block _ (lt_of_block H2.out.2)).trans H2.out.2
      have hx1 := (hkr1.block _ (lt_of_block H1.out.2)).trans H1.out.2
      obtain ⟨⟨p0, p1, p2⟩, pz⟩ := box3 hx2
      obtain ⟨⟨r0, r1, r2⟩, rz⟩ := box3 hx1
      have hR2 := (H2.out.1.2).below hkr2
      have hR1 := (H1.out.1.2).below hkr1
      have hRk := (rows_of_own ho).2
      have L2 := (congrArg (fun m => listed m (idOf (l2 ++ [(self, s, part)] ++ seg ID Ad Pt q.toNat ((k : Int).toNat - q.toNat))) self) H2.out.1.1).trans ((listed_list _ self).trans (with_any self s part l2 _))
      have LK := (listed_list (keptL self ID Ad Pt k) self).trans (kept_any self ID Ad Pt k)
      have L1 := (congrArg (fun m => listed m (idOf ([] ++ seg ID Ad Pt (Int.toNat 0) ((k : Int).toNat - Int.toNat 0))) self) H1.out.1.1).trans (listed_list _ self)
      have hl2 := lt_of_block H2.out.2
      have hl1 := lt_of_block H1.out.2
      have L1' : (!listed m1 (idOf ([] ++ seg ID Ad Pt (Int.toNat 0) ((k : Int).toNat - Int.toNat 0))) self) = (((keptL self ID Ad Pt k).length : Int) == (k : Int)) := by
        rw [L1]; simp only [List.nil_append, Int.toNat_natCast, Int.toNat_zero, Nat.sub_zero]; exact orig_any self ID Ad Pt k
      have HL : Hid _ := And.intro L2 (And.intro LK L1')
      have HR : Hid _ := And.intro hR2 (And.intro hR1 hRk)
      have hwr : Below w.heap.size w wr := HH.out.1.trans (hkp.1.mono HH.out.1.size)
      have HW : Hid _ := hwr
      have hml : (keptL self ID Ad Pt k).length ≤ maxLen := by unfold maxLen; omega
      have hq2 : we.heap.size < wr.heap.size := lt_of_block hx2
      have hq1 : wb.heap.size < wr.heap.size := lt_of_block hx1
      clear L1 L1' L2 LK hR2 hR1 hRk hwr hx1 hx2 ho hkp hbx hkr1 hkr2 H1 H2 HH hr
      go_wp2_with fail
      refine (zzremoved_any self a4 m4 c4 pa pl pc2 _ _ _ wr hm4 HR.out.1).mono ?_
      rintro e wx ⟨he, hbx1⟩
      unfold RemPost at he
      rw [HL.out.1] at he
      subst he
      have y0 := (hbx1.cell (p := ⟨wh.heap.size, 0, none⟩) hsz).trans e0
      have y1 := (hbx1.cell (p := ⟨wh.heap.size, 1, none⟩) hsz).trans e1
      have y2 := (hbx1.cell (p := ⟨wh.heap.size, 2, none⟩) hsz).trans e2
      have z0 := (hbx1.cell (p := ⟨wb.heap.size, 0, none⟩) hq1).trans r0
      have z1 := (hbx1.cell (p := ⟨wb.heap.size, 1, none⟩) hq1).trans r1
      have z2 := (hbx1.cell (p := ⟨wb.heap.size, 2, none⟩) hq1).trans r2
      have hsx : wr.heap.size ≤ wx.heap.size := hbx1.size
      have HX : Hid _ := hbx1
      clear hbx1
      go_wp2_with fail
      refine (zzremoved_any self ao' _ cap' pa pl pc2 _ _ _ wx hml (HR.out.2.2.below HX.out)).mono ?_
      rintro e wy ⟨he, hby1⟩
      unfold RemPost at he
      rw [HL.out.2.1] at he
      subst he
      have z0 := (hby1.cell (p := ⟨wb.heap.size, 0, none⟩) (by exact Nat.lt_of_lt_of_le hq1 hsx)).trans z0
      have z1 := (hby1.cell (p := ⟨wb.heap.size, 1, none⟩) (by exact Nat.lt_of_lt_of_le hq1 hsx)).trans z1
      have z2 := (hby1.cell (p := ⟨wb.heap.size, 2, none⟩) (by exact Nat.lt_of_lt_of_le hq1 hsx)).trans z2
      have HY : Hid _ := HX.out.trans (hby1.mono hsx)
      clear hby1 y0 y1 y2
      go_wp2_with fail
      refine (zzremoved_any self a1 m1 c1 pa pl pc2 _ _ _ wy hm1 (HR.out.2.1.below HY.out)).mono ?_
      rintro e wz ⟨he, hbz1⟩
      unfold RemPost at he
      rw [HL.out.2.2] at he
      subst he
      have HZ : Hid _ := HW.out.trans ((HY.out.trans (hbz1.mono HY.out.size)).mono HW.out.size)
      clear hbz1
      go_wp2_with fail
      go_ret
      exact ⟨by simp, HZ.out⟩
end Go.Proofs.Qxb6614540a
