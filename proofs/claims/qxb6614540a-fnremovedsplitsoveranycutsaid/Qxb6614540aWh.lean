import Derived.Test.Qxb6614540aWf
import Derived.Deep.DeepCutAuto
namespace Go.Proofs.Qxb6614540a
open Go.RowKit

/-! ### Plain laws -/
theorem seg_split (ID : Nat → Int) (Ad : Nat → ByteArray) (Pt : Nat → Int) (q m : Nat) : seg ID Ad Pt 0 (q + m) = seg ID Ad Pt 0 q ++ seg ID Ad Pt q m := by
  simp [seg, List.range_add, List.map_map]
theorem seg_any (ID : Nat → Int) (Ad : Nat → ByteArray) (Pt : Nat → Int) (n : Nat) (self : Int) : ((seg ID Ad Pt 0 n).any fun t => t.1 == self) = listed n ID self := by
  unfold seg listed
  rw [List.any_map]
  congr 1
  funext k
  simp [Function.comp]
/-- Does a piece hold self? -/
def hasId (self : Int) (l : List (Int × ByteArray × Int)) : Bool := l.any fun t => t.1 == self
theorem listed_has (l : List (Int × ByteArray × Int)) (self : Int) (m : Nat) (h : m = l.length) : listed m (idOf l) self = hasId self l := by
  subst h; exact listed_list l self

set_option maxHeartbeats 1000000 in
set_option maxRecDepth 100000 in
theorem law_cut (self : Int) (ro : Option Addr) (n c : Nat) (ID : Nat → Int) (Ad : Nat → ByteArray) (Pt : Nat → Int) (po : Option Addr) (np pc : Nat) (Z : Nat → Int) (pos : Int) (w : World)
    (hn : n ≤ maxLen) (hnp : np ≤ maxLen) (hr : RowsIn w ro n ID Ad Pt) (hp : PeersIn w po np Z) :
    Calls Try.prog 3 #[.int .u64 self, .slice ro n c, .slice po np pc, .int .i64 pos] w fun e w' => e = .returned (.bool true) ∧ Below w.heap.size w w' := by
  go_enter Try.func3, Try.ntmps3
  go_wp2_with fail
  refine (zzBytesCut_any self ro n c ID Ad Pt po np pc pos _ hn hr).mono ?_
  rintro e w ⟨⟨r, rfl, _⟩, rfl⟩
  cases r with
  | false =>
    go_wp2
    go_ret
    exact ⟨rfl, Below.refl _ _⟩
  | true =>
  go_wp2_with fail
  refine (tooBig_any ro n c ID Ad Pt po np pc _ _ hn hnp hr).mono ?_
  rintro e w ⟨⟨r, rfl, hsm⟩, rfl⟩
  cases r with
  | true =>
    go_wp2
    go_ret
    exact ⟨rfl, Below.refl _ _⟩
  | false =>
  obtain ⟨hn6, hp6⟩ := hsm rfl
  clear hsm
  go_wp2_with fail
  refine (clone_any po np pc Z _ hp6 hp).mono ?_
  rintro e w1 ⟨⟨pa, pl, pc2, rfl⟩, hb1⟩
  go_upto_if 27 with fail
  go_cut [3] (fun v wc => wc = w1 ∧ ∃ q : Int, v = .int .i64 q ∧ 0 ≤ q)
  case first =>
    go_wp2_with fail
    all_goals
      go_meet
      case rel => exact ⟨rfl, _, rfl, by omega⟩
  case rest =>
  obtain ⟨rfl, q, rfl, hq0⟩ := hcut
  go_upto_if 31 with fail
  go_cut [3] (fun v wc' => wc' = wc ∧ ∃ q : Nat, v = .int .i64 q ∧ q ≤ n)
  case first =>
    obtain ⟨q, rfl⟩ := Int.eq_ofNat_of_zero_le hq0
    go_wp2_with fail
    all_goals
      go_meet
      case rel => exact ⟨rfl, _, rfl, by omega⟩
  case rest =>
  clear hq0 q
  obtain ⟨rfl, q, rfl, hq1⟩ := hcut
  go_wp2_with fail
  refine (empty_any self pa pl pc2 _).mono ?_
  rintro e wa ⟨rfl, hga⟩
  have hbW : Below w.heap.size w wa := hb1.grown hga hb1.size (fun k hk => by cases hk)
  go_wp2_with fail
  refine (rows_any self none 0 0 pa pl pc2 ro n c ID Ad Pt _ _ wa.heap.size [] w wa (World.ownsRow_nil _ _ _ _) (by omega) hn6 (Nat.le_refl _) hbW.size hbW hr (by omega) (by omega) (by omega)).mono ?_
  rintro e wb ⟨a1, c1, rfl, ho1, hk1⟩
  rw [Int.toNat_natCast, Int.toNat_zero, Nat.sub_zero, Nat.zero_add, List.nil_append] at *
  have hb2 : Below w.heap.size w (wb.alloc (.cells #[.int .u64 self, .slice a1 n c1, .slice pa pl pc2] 31)) := (hbW.trans (hk1.1.mono hbW.size)).alloc (Nat.le_trans hbW.size hk1.1.size) _
  have hx1 : (wb.alloc (.cells #[.int .u64 self, .slice a1 n c1, .slice pa pl pc2] 31)).heap[wb.heap.size]? = some (.cells #[.int .u64 self, .slice a1 n c1, .slice pa pl pc2] 31) := heap_alloc_new _ _
  have H1 : Hid _ := And.intro (rows_of_own (ho1.alloc (.cells #[.int .u64 self, .slice a1 n c1, .slice pa pl pc2] 31))) (And.intro hx1 hb2)
  clear hga hbW ho1 hk1 hx1 hb2 hb1
  go_wp2_with fail
  generalize wb.alloc (.cells #[.int .u64 self, .slice a1 n c1, .slice pa pl pc2] 31) = W1 at *
  refine (empty_any self pa pl pc2 _).mono ?_
  rintro e wd ⟨rfl, hgd⟩
  have hbd1 : Below W1.heap.size W1 wd := (Below.refl _ _).grown hgd (Nat.le_refl _) (fun k hk => by cases hk)
  have hbd : Below w.heap.size w wd := H1.out.2.2.trans (hbd1.mono H1.out.2.2.size)
  go_wp2_with fail
  refine (rows_any self none 0 0 pa pl pc2 ro n c ID Ad Pt _ _ wd.heap.size [] w wd (World.ownsRow_nil _ _ _ _) (by omega) hn6 (Nat.le_refl _) hbd.size hbd hr (by omega) (by omega) (by omega)).mono ?_
  rintro e we ⟨a2, c2, rfl, ho2, hk2⟩
  rw [Int.toNat_natCast, Int.toNat_zero, Nat.sub_zero, Nat.zero_add, List.nil_append] at *
  have hb2 : Below w.heap.size w (we.alloc (.cells #[.int .u64 self, .slice a2 q c2, .slice pa pl pc2] 31)) := (hbd.trans (hk2.1.mono hbd.size)).alloc (Nat.le_trans hbd.size hk2.1.size) _
  have hb21 : Below W1.heap.size W1 (we.alloc (.cells #[.int .u64 self, .slice a2 q c2, .slice pa pl pc2] 31)) := (hbd1.trans (hk2.1.mono hbd1.size)).alloc (Nat.le_trans hbd1.size hk2.1.size) _
  have hx2 : (we.alloc (.cells #[.int .u64 self, .slice a2 q c2, .slice pa pl pc2] 31)).heap[we.heap.size]? = some (.cells #[.int .u64 self, .slice a2 q c2, .slice pa pl pc2] 31) := heap_alloc_new _ _
  have H2 : Hid _ := And.intro (rows_of_own (ho2.alloc (.cells #[.int .u64 self, .slice a2 q c2, .slice pa pl pc2] 31))) (And.intro hx2 (And.intro hb2 hb21))
  clear hgd hbd hbd1 ho2 hk2 hx2 hb2 hb21
  go_wp2_with fail
  generalize we.alloc (.cells #[.int .u64 self, .slice a2 q c2, .slice pa pl pc2] 31) = W2 at *
  refine (empty_any self pa pl pc2 _).mono ?_
  rintro e wf ⟨rfl, hgf⟩
  have hbf2 : Below W2.heap.size W2 wf := (Below.refl _ _).grown hgf (Nat.le_refl _) (fun k hk => by cases hk)
  have hbf : Below w.heap.size w wf := H2.out.2.2.1.trans (hbf2.mono H2.out.2.2.1.size)
  have hbf1 : Below W1.heap.size W1 wf := H2.out.2.2.2.trans (hbf2.mono H2.out.2.2.2.size)
  go_wp2_with fail
  refine (rows_any self none 0 0 pa pl pc2 ro n c ID Ad Pt _ _ wf.heap.size [] w wf (World.ownsRow_nil _ _ _ _) (by omega) hn6 (Nat.le_refl _) hbf.size hbf hr (by omega) (by omega) (by omega)).mono ?_
  rintro e wg ⟨a3, c3, rfl, ho3, hk3⟩
  rw [Int.toNat_natCast, Int.toNat_natCast, Nat.zero_add, List.nil_append] at *
  have hb3 : Below w.heap.size w (wg.alloc (.cells #[.int .u64 self, .slice a3 (n - q) c3, .slice pa pl pc2] 31)) := (hbf.trans (hk3.1.mono hbf.size)).alloc (Nat.le_trans hbf.size hk3.1.size) _
  have hb31 : Below W1.heap.size W1 (wg.alloc (.cells #[.int .u64 self, .slice a3 (n - q) c3, .slice pa pl pc2] 31)) := (hbf1.trans (hk3.1.mono hbf1.size)).alloc (Nat.le_trans hbf1.size hk3.1.size) _
  have hb32 : Below W2.heap.size W2 (wg.alloc (.cells #[.int .u64 self, .slice a3 (n - q) c3, .slice pa pl pc2] 31)) := (hbf2.trans (hk3.1.mono hbf2.size)).alloc (Nat.le_trans hbf2.size hk3.1.size) _
  have hx3 : (wg.alloc (.cells #[.int .u64 self, .slice a3 (n - q) c3, .slice pa pl pc2] 31)).heap[wg.heap.size]? = some (.cells #[.int .u64 self, .slice a3 (n - q) c3, .slice pa pl pc2] 31) := heap_alloc_new _ _
  have hx1 := (hb31.block _ (lt_of_block H1.out.2.1)).trans H1.out.2.1
  have hx2 := (hb32.block _ (lt_of_block H2.out.2.1)).trans H2.out.2.1
  have hR3 := rows_of_own (ho3.alloc (.cells #[.int .u64 self, .slice a3 (n - q) c3, .slice pa pl pc2] 31))
  have hR1 := H1.out.1.2.below hb31
  have hR2 := H2.out.1.2.below hb32
  have L1 := listed_has _ self _ H1.out.1.1
  have L2 := listed_has _ self _ H2.out.1.1
  have L3 := listed_has _ self _ hR3.1
  have L0 : listed n ID self = (hasId self (seg ID Ad Pt 0 q) || hasId self (seg ID Ad Pt q (n - q))) := by
    rw [← seg_any ID Ad Pt n self, show n = q + (n - q) from by omega, seg_split]
    rw [show q + (n - q) - q = n - q from by omega]
    simp [hasId]
  have L1' : hasId self (seg ID Ad Pt 0 n) = (hasId self (seg ID Ad Pt 0 q) || hasId self (seg ID Ad Pt q (n - q))) := (seg_any ID Ad Pt n self).trans L0
  have HX : Hid _ := And.intro hR1 (And.intro hR2 hR3.2)
  have HL : Hid _ := And.intro (L1.trans L1') (And.intro L2 (And.intro L3 L0))
  have HB : Hid _ := hb3
  have hq1' : wb.heap.size < (wg.alloc (.cells #[.int .u64 self, .slice a3 (n - q) c3, .slice pa pl pc2] 31)).heap.size := lt_of_block hx1
  have hq2' : we.heap.size < (wg.alloc (.cells #[.int .u64 self, .slice a3 (n - q) c3, .slice pa pl pc2] 31)).heap.size := lt_of_block hx2
  have hq3' : wg.heap.size < (wg.alloc (.cells #[.int .u64 self, .slice a3 (n - q) c3, .slice pa pl pc2] 31)).heap.size := lt_of_block hx3
  obtain ⟨⟨p0, p1, p2⟩, _⟩ := box3 hx1
  obtain ⟨⟨r0, r1, r2⟩, _⟩ := box3 hx2
  obtain ⟨⟨s0, s1, s2⟩, _⟩ := box3 hx3
  have HC : Hid _ := And.intro p0 (And.intro p1 (And.intro p2 (And.intro r0 (And.intro r1 (And.intro r2 (And.intro s0 (And.intro s1 s2)))))))
  have HQ : Hid _ := And.intro hq1' (And.intro hq2' hq3')
  clear hgf hbf hbf1 hbf2 ho3 hk3 hx1 hx2 hx3 hb31 hb32 hR3 hR1 hR2 L1 L2 L3 L0 L1' hb3 H1 H2 hq1' hq2' hq3' p0 p1 p2 r0 r1 r2 s0 s1 s2
  go_upto_region 13 with fail
  generalize wg.alloc (.cells #[.int .u64 self, .slice a3 (n - q) c3, .slice pa pl pc2] 31) = W3 at *
  obtain ⟨p0, p1, p2, r0, r1, r2, s0, s1, s2⟩ := HC.out
  obtain ⟨hq1', hq2', hq3'⟩ := HQ.out
  have hmn : n ≤ maxLen := hn
  have hmq : q ≤ maxLen := by unfold maxLen; omega
  have hmr : n - q ≤ maxLen := by unfold maxLen; omega
  generalize hasId self (seg ID Ad Pt 0 q) = A at HL
  generalize hasId self (seg ID Ad Pt q (n - q)) = B at HL
  go_wp2_with fail
  refine (zzremoved_any self a1 n c1 pa pl pc2 _ _ _ W3 hmn HX.out.1).mono ?_
  rintro e wx ⟨he, hbx1⟩
  unfold RemPost at he
  rw [HL.out.1] at he
  subst he
  have y0 := (hbx1.cell (p := ⟨we.heap.size, 0, none⟩) hq2').trans r0
  have y1 := (hbx1.cell (p := ⟨we.heap.size, 1, none⟩) hq2').trans r1
  have y2 := (hbx1.cell (p := ⟨we.heap.size, 2, none⟩) hq2').trans r2
  have z0 := (hbx1.cell (p := ⟨wg.heap.size, 0, none⟩) hq3').trans s0
  have z1 := (hbx1.cell (p := ⟨wg.heap.size, 1, none⟩) hq3').trans s1
  have z2 := (hbx1.cell (p := ⟨wg.heap.size, 2, none⟩) hq3').trans s2
  have hsx : W3.heap.size ≤ wx.heap.size := hbx1.size
  have HW : Hid _ := hbx1
  clear hbx1
  go_wp2_with fail
  refine (zzremoved_any self a2 q c2 pa pl pc2 _ _ _ wx hmq (HX.out.2.1.below HW.out)).mono ?_
  rintro e wy ⟨he, hby1⟩
  unfold RemPost at he
  rw [HL.out.2.1] at he
  subst he
  have z0 := (hby1.cell (p := ⟨wg.heap.size, 0, none⟩) (by exact Nat.lt_of_lt_of_le hq3' hsx)).trans z0
  have z1 := (hby1.cell (p := ⟨wg.heap.size, 1, none⟩) (by exact Nat.lt_of_lt_of_le hq3' hsx)).trans z1
  have z2 := (hby1.cell (p := ⟨wg.heap.size, 2, none⟩) (by exact Nat.lt_of_lt_of_le hq3' hsx)).trans z2
  have HY : Hid _ := HW.out.trans (hby1.mono hsx)
  clear hby1 y0 y1 y2
  go_wp2_with fail
  refine (zzremoved_any self a3 (n - q) c3 pa pl pc2 _ _ _ wy hmr (HX.out.2.2.below HY.out)).mono ?_
  rintro e wz ⟨he, hbz1⟩
  unfold RemPost at he
  rw [HL.out.2.2.1] at he
  subst he
  have hwz : Below w.heap.size w wz := HB.out.trans ((HY.out.trans (hbz1.mono HY.out.size)).mono HB.out.size)
  have HZ : Hid _ := hwz
  have hrz := hr.below hwz
  have HRZ : Hid _ := hrz
  have H0 : Hid _ := HL.out.2.2.2
  clear hbz1 z0 z1 z2 hwz hrz hr HL HX p0 p1 p2 r0 r1 r2 s0 s1 s2
  cases A <;> cases B
  all_goals
    go_wp2_with fail
    refine (lists_any ro n c ID Ad Pt self wz hn HRZ.out).mono ?_
    rintro e wv ⟨he, hwv⟩
    rw [H0.out] at he
    subst he
    rw [hwv]
    clear hwv
    go_wp2_with fail
    go_ret
    exact ⟨rfl, HZ.out⟩
end Go.Proofs.Qxb6614540a
