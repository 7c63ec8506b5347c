import Derived.Test.Qxb6614550aDoorWb
namespace Go.Proofs.Qxb6614550aDoor
open Go.RowKit Go.Maps Go.WideMaps

def kindAt (j : Nat) : ByteArray := if j = 0 then k1 else if j = 1 then k2 else if j = 2 then k3 else k4
theorem kindAt_size (j : Nat) : (kindAt j).size ≤ maxLen := by
  unfold kindAt; split
  · decide
  split
  · decide
  split <;> decide
theorem cnt_at (m1 m2 m3 m4 : Int) (j : Nat) (hj : j < 4) (z : DataW Unit) : (cntD m1 m2 m3 m4).atKey (.string (kindAt j).data.toList) z = .lit (.int .i64 (valAt m1 m2 m3 m4 (j + 1))) := by
  match j, hj with
  | 0, _ => rfl
  | 1, _ => rfl
  | 2, _ => rfl
  | 3, _ => rfl

theorem Tryd.info30 : (Tryd.prog.info? 30).map (fun i => (i.zero, i.size, i.bytes)) = some (some (.agg #[.string ByteArray.empty, .int .i64 0]), 2, 24) := by kernel_rfl

/-- What countKinds has laid: the kinds with their counts, in order, in a row of its own. -/
def SentAt (w : World) (N : Nat) (m1 m2 m3 m4 : Int) : Prop :=
  N < w.heap.size ∧ ∀ j, j < 4 → w.cell? ⟨N, j * 2, none⟩ = some (.string (kindAt j)) ∧ w.cell? ⟨N, j * 2 + 1, none⟩ = some (.int .i64 (valAt m1 m2 m3 m4 (j + 1)))

/-- The knotKinds' array. -/
def KindsAt (w : World) (g o : Nat) : Prop := g < w.heap.size ∧ ∀ j, j < 4 → w.cell? ⟨g, o + j, none⟩ = some (.string (kindAt j))
theorem KindsAt.below {w w' : World} {g o : Nat} (h : KindsAt w g o) (hb : Below w.heap.size w w') : KindsAt w' g o :=
  ⟨Nat.lt_of_lt_of_le h.1 hb.size, fun j hj => (hb.cell (p := ⟨g, _, none⟩) h.1).trans (h.2 j hj)⟩

theorem own_below {w w' : World} {R : Value → Option (DataW Unit × List MemPlace)} {B n : Nat} {D : DataW Unit} (h : w.ownsMap Tryd.prog 9 R B n D) (hb : Below w.heap.size w w') : w'.ownsMap Tryd.prog 9 R B n D :=
  h.kept (row := none) ⟨hb.os, hb.tape, hb.output, hb.size, fun k hk _ => hb.block k hk⟩ (by simp)

theorem fill_step {xs : List Value} {k : Nat} {f g : Nat → Value} (hl : k * 2 + 1 < xs.length) (h : ∀ j, j < k → xs[j * 2]? = some (f j) ∧ xs[j * 2 + 1]? = some (g j)) :
    ∀ j, j < k + 1 → ((xs.set (k * 2) (f k)).set (k * 2 + 1) (g k))[j * 2]? = some (f j) ∧ ((xs.set (k * 2) (f k)).set (k * 2 + 1) (g k))[j * 2 + 1]? = some (g j) := by
  intro j hj
  by_cases e : j = k
  · subst e
    refine ⟨?_, ?_⟩
    · rw [List.getElem?_set_ne (by omega), List.getElem?_set_self (by omega)]
    · rw [List.getElem?_set_self (by simp; omega)]
  · have := h j (by omega)
    refine ⟨?_, ?_⟩
    · rw [List.getElem?_set_ne (by omega), List.getElem?_set_ne (by omega)]; exact this.1
    · rw [List.getElem?_set_ne (by omega), List.getElem?_set_ne (by omega)]; exact this.2

set_option maxHeartbeats 1000000 in
set_option maxRecDepth 100000 in
theorem countKinds_any (g o B n c : Nat) (m1 m2 m3 m4 : Int) (w : World) (hmap : w.ownsMap Tryd.prog 9 (plainElem (H := Unit) Tryd.prog 3) B n (cntD m1 m2 m3 m4)) (hk : KindsAt w g o) :
    Calls Tryd.prog 14 #[.slice (some ⟨g, o, none⟩) 4 c, .map (some B)] w fun e w' => e = .returned (.slice (some ⟨w.heap.size, 0, none⟩) 4 4) ∧ SentAt w' w.heap.size m1 m2 m3 m4 ∧ Below w.heap.size w w' := by
  obtain ⟨i0, hi, hz0, hz1, hz2⟩ := info_parts Tryd.info30
  have hBl := hmap.lt
  go_enter Tryd.func14, Tryd.ntmps14
  go_wp2_with (at_make; refine wpList_make_full _ rfl (.tmp 9) (.tmp 9) 24 rfl w.heap.size 30 i0 (.agg #[.string ByteArray.empty, .int .i64 0]) 2 Tryd.underlying24 hi hz0 hz1 .i64 .i64 _ _ 4 rfl rfl rfl rfl (by rw [hz2]; omega) (by unfold maxLen; omega) (Nat.le_refl _) ?_; intro w1 hown hgrow)
  go_loopw [13] (fun i wr => ∃ (k : Nat) (xs : List Value), k ≤ 4 ∧ i = .int .i64 k ∧ wr.ownsRow w.heap.size 30 2 (.slice (some ⟨w.heap.size, 0, none⟩) 4 4) 4 xs ∧
      (∀ j, j < k → xs[j * 2]? = some (.string (kindAt j)) ∧ xs[j * 2 + 1]? = some (.int .i64 (valAt m1 m2 m3 m4 (j + 1)))) ∧ Below w.heap.size w wr) (fun i _ => 4 - (intOf i).toNat)
  case atStart => exact ⟨0, _, Nat.zero_le _, rfl, hown, fun j hj => absurd hj (by omega), (Below.refl _ _).grown hgrow (Nat.le_refl _) (fun k hk => by cases hk)⟩
  case round =>
    obtain ⟨k, xs, hkk, rfl, ho, hx, hb⟩ := hrel
    by_cases hlt : k < 4
    · have hc := (hk.below hb).2 k hlt
      have hl := ho.1
      obtain ⟨u0, hu0⟩ : ∃ u, wr.cell? ⟨w.heap.size, k * 2, none⟩ = some u := by
        rw [ho.cellAt (k * 2) (by omega)]
        exact ⟨xs[k * 2]'(by omega), List.getElem?_eq_getElem (by omega)⟩
      obtain ⟨u1, hu1⟩ : ∃ u, wr.cell? ⟨w.heap.size, k * 2 + 1, none⟩ = some u := by
        rw [ho.cellAt (k * 2 + 1) (by omega)]
        exact ⟨xs[k * 2 + 1]'(by omega), List.getElem?_eq_getElem (by omega)⟩
      have hf0 := ho.frozenAt (k * 2)
      have hf1 := ho.frozenAt (k * 2 + 1)
      have hm2 : wr.ownsMap Tryd.prog 9 (plainElem (H := Unit) Tryd.prog 3) B n (cntD m1 m2 m3 m4) := own_below hmap hb
      have HK : Hid _ := key_mk (kindAt k) (kindAt_size k)
      have HO : Hid _ := And.intro ho (And.intro hx hb)
      clear hl ho hx hb hown hgrow
      have hkn0 : ∃ kn, kindAt k = kn := ⟨_, rfl⟩
      obtain ⟨kn, hkn⟩ := hkn0
      rw [hkn] at hc HK
      have HN : Hid _ := hkn
      clear hkn
      go_wp2_with (first
        | (at_lookup; refine wpList_lookup_own_int _ rfl _ _ 47 rfl 9 3 .i64 law Tryd.underlying47 Tryd.underlying3 (zero3 _) B n _ rfl hm2 _ _ rfl HK.out ?_; intro cv hat hwc; have HT : Hid _ := hat; clear hat hwc)
        | go_in)
      go_roundw
      case rel =>
        obtain ⟨ho, hx, hb⟩ := HO.out
        have hcv : cv = valAt m1 m2 m3 m4 (k + 1) := by
          have h := HT.out
          rw [← HN.out, cnt_at m1 m2 m3 m4 k hlt] at h
          cases h; rfl
        have hl := ho.1
        refine ⟨k + 1, _, by omega, by go_num, ((ho.stored (k * 2) (.string kn)).1.stored (k * 2 + 1) (.int .i64 cv)).1, ?_, (hb.setCell (Nat.le_refl _) _).setCell (Nat.le_refl _) _⟩
        rw [hcv, ← HN.out]
        exact fill_step (f := fun j => .string (kindAt j)) (g := fun j => .int .i64 (valAt m1 m2 m3 m4 (j + 1))) (by omega) hx
      case measure => simp [intOf]; omega
    · have ek : k = 4 := by omega
      subst ek
      have HO : Hid _ := And.intro ho (And.intro hx hb)
      clear ho hx hb hown hgrow hk hmap
      go_wp2
      go_ret
      obtain ⟨ho, hx, hb⟩ := HO.out
      have hl := ho.1
      refine ⟨rfl, ⟨(ho.lt _ rfl).2, fun j hj => ⟨?_, ?_⟩⟩, hb⟩
      · rw [ho.cellAt _ (by omega)]; exact (hx j hj).1
      · rw [ho.cellAt _ (by omega)]; exact (hx j hj).2
end Go.Proofs.Qxb6614550aDoor
