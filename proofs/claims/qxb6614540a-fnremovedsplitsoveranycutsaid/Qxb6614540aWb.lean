import Derived.Test.Qxb6614540aWa
namespace Go.Proofs.Qxb6614540a
open Go.RowKit

def PeersIn (w : World) (po : Option Addr) (np : Nat) (Z : Nat → Int) : Prop :=
  ∀ k, k < np → ∃ b off, po = some ⟨b, off, none⟩ ∧ b < w.heap.size ∧ w.cell? ⟨b, off + k, none⟩ = some (.int .u64 (Z k))

theorem Try.info22 : (Try.prog.info? 22).map (fun i => (i.zero, i.size, i.bytes)) = some (some (.int .u64 0), 1, 8) := by kernel_rfl

/-- A slice comes back, whichever. -/
def RetS (e : Ending) : Prop := ∃ a l c, e = .returned (.slice a l c)

set_option maxHeartbeats 400000 in
set_option maxRecDepth 100000 in
theorem clone_any (po : Option Addr) (np pc : Nat) (Z : Nat → Int) (w : World) (hp : np ≤ 65536) (hr : PeersIn w po np Z) :
    Calls Try.prog 11 #[.slice po np pc] w fun e w' => RetS e ∧ Below w.heap.size w w' := by
  cases po with
  | none =>
    have hnil : ∀ w : World, (binOp .eql 24 (.slice none np pc) (.slice none 0 0)).run Try.prog w = .ok (.bool true) w := fun w => Lib.run_eql_slice_nil (P := Try.prog) w 24 22 none np pc 0 0 Try.underlying24
    go_enter Try.func11, Try.ntmps11
    go_wp2
    go_ret
    exact ⟨⟨_, _, _, rfl⟩, Below.refl _ _⟩
  | some pa =>
    have hnil : ∀ w : World, (binOp .eql 24 (.slice (some pa) np pc) (.slice none 0 0)).run Try.prog w = .ok (.bool false) w := fun w => Lib.run_eql_slice_nil (P := Try.prog) w 24 22 (some pa) np pc 0 0 Try.underlying24
    obtain ⟨i0, hi, hz0, hz1, hz2⟩ := info_parts Try.info22
    go_enter Try.func11, Try.ntmps11
    go_wp2_with (at_make; refine wpList_make_full _ rfl (.tmp 8) (.tmp 8) 24 rfl w.heap.size 22 i0 (.int .u64 0) 1 Try.underlying24 hi hz0 hz1 .i64 .i64 _ _ np rfl rfl rfl rfl (by rw [hz2]; omega) (by unfold maxLen; omega) (Nat.le_refl _) ?_; intro w1 hown hgrow)
    go_loopw [4] (fun i wr => ∃ (k : Nat) (xs : List Value), k ≤ np ∧ i = .int .i64 k ∧ wr.ownsRow w.heap.size 22 1 (.slice (some ⟨w.heap.size, 0, none⟩) np np) np xs ∧ Below w.heap.size w wr) (fun i _ => np - (intOf i).toNat)
    case atStart => exact ⟨0, _, Nat.zero_le _, rfl, hown, (Below.refl _ _).grown hgrow (Nat.le_refl _) (fun k hk => by cases hk)⟩
    case round =>
      obtain ⟨k, xs, hk, rfl, ho, hb⟩ := hrel
      by_cases hlt : k < np
      · obtain ⟨b, off, e1, hlb, hc⟩ := hr k hlt
        cases e1
        have hc' : wr.cell? ⟨b, off + k, none⟩ = some (.int .u64 (Z k)) := (hb.cell (p := ⟨b, off + k, none⟩) hlb).trans hc
        have hl := ho.1
        obtain ⟨u, hu⟩ : ∃ u, wr.cell? ⟨w.heap.size, k, none⟩ = some u := by
          rw [ho.cellAt k (by omega)]
          exact ⟨xs[k]'(by omega), List.getElem?_eq_getElem (by omega)⟩
        have hfz := ho.frozenAt k
        have hst := (ho.stored k (.int .u64 (Z k)))
        have HS : Hid _ := hst
        clear hst hl hown hgrow
        go_wp2
        go_roundw
        case rel => exact ⟨k + 1, _, by omega, by go_num, HS.out.1, hb.setCell (Nat.le_refl _) _⟩
        case measure => simp [intOf]; omega
      · go_wp2
        go_ret
        exact ⟨⟨_, _, _, rfl⟩, hb⟩

end Go.Proofs.Qxb6614540a
