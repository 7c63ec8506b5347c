/-
  THE WALKS: 'lost' by its two ways, ZZlost, the law.
-/
import Derived.Test.Qxb6614540aFmtFa
import Derived.Laws.EntriesVeiled
namespace Go.Proofs.Qxb6614540aFmt
open Go.RowKit Go.Extern.Stop Go.Stop Go.Extern

attribute [local go_sem] Tryf.call11 Tryf.guard Tryf.fmtA Tryf.fmtAr Tryf.fmtB Tryf.fmtBr Tryf.op22_100w Tryf.ptr64 Tryf.elem64 Tryf.isError64 Tryf.ptr53 Tryf.elem53 Tryf.isError53

/-- What comes back: a *fmt.wrapError whose second cell holds the sentinel. -/
def RetW (a : Addr) (w : World) (e : Ending) (w' : World) : Prop :=
  ∃ pb, e = .returned (.iface 53 (.pointer (some ⟨pb, 0, none⟩))) ∧ w'.cell? ⟨pb, 0 + 1, none⟩ = some (.iface 64 (.pointer (some a))) ∧ Below w.heap.size w w'

theorem cell_two {w : World} {a : Addr} {v : Value} (h : w.cell? a = some v) (o1 o2 : Obj) : ((w.alloc o1).alloc o2).cell? a = some v := by
  have hlt := World.block_lt_of_cell? _ _ h
  have b : Below w.heap.size w ((w.alloc o1).alloc o2) := ((Below.refl _ _).alloc (Nat.le_refl _) _).alloc (by simp) _
  exact (b.cell hlt).trans h

theorem cell_one {w : World} {a : Addr} {v : Value} (h : w.cell? a = some v) (o1 : Obj) : (w.alloc o1).cell? a = some v := by
  have b : Below w.heap.size w (w.alloc o1) := (Below.refl _ _).alloc (Nat.le_refl _) _
  exact (b.cell (World.block_lt_of_cell? _ _ h)).trans h
theorem new_two (w : World) (x y : Value) (t : TypeId) (b : Nat) (hb : b = w.heap.size) : ((w.alloc (.cells #[x, y] t)).drew).cell? ⟨b, 0 + 1, none⟩ = some y := by
  subst hb
  show (w.alloc (.cells #[x, y] t)).cell? ⟨w.heap.size, 1, none⟩ = some y
  rw [cell_of_row _ _ _ _ _ _ (heap_alloc_new w _)]
  rfl

set_option maxHeartbeats 1000000 in
set_option maxRecDepth 100000 in
theorem lost_any (F : Interp) (term round index : Int) (indexed earlier : Bool) (id : Int) (a : Addr) (s : ByteArray) (w : World) (hF : F.answers w.tape)
    (hg : w.cell? ⟨0, 0, none⟩ = some (.iface 64 (.pointer (some a)))) (hs : w.cell? a = some (.string s)) :
    Calls Tryf.prog 6 #[.agg #[.int .u8 0, .slice none 0 0, .int .u8 0, .int .u64 0, .string ⟨#[]⟩, .int .u64 0, .slice none 0 0, .int .u64 0, .int .u64 0, .bool earlier, .chan none, .int .u64 term, .int .u64 round, .int .u64 index, .bool indexed], .int .u64 id] w fun e w' => RetW a w e w' := by
  have hF' := answers_open hF
  obtain ⟨sh, hsh⟩ := Tryf.opPlain64
  have hop : ∀ o1 o2, (FmtStop.operand "fmt.errorf" true 119 false (.iface 64 (.pointer (some a)))).run Tryf.prog ((w.alloc o1).alloc o2) = .ok (sh, s.data.toList) ((w.alloc o1).alloc o2) :=
    fun o1 o2 => hsh _ a s _ (cell_two hs o1 o2)
  have hlg : 0 < w.heap.size := World.block_lt_of_cell? _ _ hg
  clear hsh hs
  by_cases hr : round = 0
  · subst hr
    go_enter Tryf.func6, Tryf.ntmps6
    go_wp2
    go_ret
    exact ⟨w.heap.size + 1 + 1, rfl, new_two _ _ _ _ _ (by simp), ((((Below.refl _ _).alloc (Nat.le_refl _) _).alloc (by simp) _).alloc (by simp; omega) _).drew⟩
  · have hq : (round == 0) = false := by simp [hr]
    clear hr
    go_enter Tryf.func6, Tryf.ntmps6
    go_wp2
    go_ret
    exact ⟨w.heap.size + 1 + 1, rfl, new_two _ _ _ _ _ (by simp), ((((Below.refl _ _).alloc (Nat.le_refl _) _).alloc (by simp) _).alloc (by simp; omega) _).drew⟩

set_option maxHeartbeats 1000000 in
set_option maxRecDepth 100000 in
theorem zzlost_any (F : Interp) (term round index : Int) (indexed earlier : Bool) (id : Int) (a : Addr) (s : ByteArray) (w : World) (hF : F.answers w.tape)
    (hg : w.cell? ⟨0, 0, none⟩ = some (.iface 64 (.pointer (some a)))) (hs : w.cell? a = some (.string s)) :
    Calls Tryf.prog 4 #[.int .u64 term, .int .u64 round, .int .u64 index, .bool indexed, .bool earlier, .int .u64 id] w fun e w' => RetW a w e w' := by
  go_enter Tryf.func4, Tryf.ntmps4
  go_wp2_with fail
  refine (lost_any F term round index indexed earlier id a s _ (by exact hF) (by exact cell_one hg _) (by exact cell_one hs _)).mono ?_
  rintro e w' ⟨pb, rfl, hc, hb⟩
  have HC : Hid _ := hc
  have HB : Hid _ := ((Below.refl _ w).alloc (Nat.le_refl _) _).trans (hb.mono (by simp))
  clear hc hb
  go_wp2_with fail
  go_ret
  exact ⟨pb, rfl, HC.out, HB.out⟩

set_option maxHeartbeats 1000000 in
set_option maxRecDepth 100000 in
theorem wraps_any (pb : Nat) (a : Addr) (w : World) (hg : w.cell? ⟨0, 0, none⟩ = some (.iface 64 (.pointer (some a)))) (h1 : w.cell? ⟨pb, 0 + 1, none⟩ = some (.iface 64 (.pointer (some a)))) :
    Calls Tryf.prog 5 #[.iface 53 (.pointer (some ⟨pb, 0, none⟩))] w fun e w' => e = .returned (.bool true) ∧ w' = w := by
  have H1 : Hid _ := h1
  clear h1
  go_enter Tryf.func5, Tryf.ntmps5
  go_wp2_with (go_at_call 7; refine (is_wrap_same pb 0 a _ H1.out).mono ?_; rintro e w' ⟨rfl, rfl⟩)
  go_ret
  exact ⟨rfl, rfl⟩

set_option maxHeartbeats 1000000 in
set_option maxRecDepth 100000 in
theorem law_any (F : Interp) (term round index : Int) (indexed earlier : Bool) (id : Int) (a : Addr) (s : ByteArray) (w : World) (hF : F.answers w.tape)
    (hg : w.cell? ⟨0, 0, none⟩ = some (.iface 64 (.pointer (some a)))) (hs : w.cell? a = some (.string s)) :
    Calls Tryf.prog 3 #[.int .u64 term, .int .u64 round, .int .u64 index, .bool indexed, .bool earlier, .int .u64 id] w fun e w' => e = .returned (.bool true) ∧ Below w.heap.size w w' := by
  have hlg : 0 < w.heap.size := World.block_lt_of_cell? _ _ hg
  go_enter Tryf.func3, Tryf.ntmps3
  go_wp2_with fail
  refine (zzlost_any F term round index indexed earlier id a s _ hF hg hs).mono ?_
  rintro e w1 ⟨pb, rfl, hc, hb⟩
  have hg1 : w1.cell? ⟨0, 0, none⟩ = some (.iface 64 (.pointer (some a))) := (hb.cell (p := ⟨0, 0, none⟩) hlg).trans hg
  have HC : Hid _ := hc
  have HB : Hid _ := hb
  clear hc hb
  go_wp2_with (go_at_call 5; refine (wraps_any pb a _ hg1 HC.out).mono ?_; rintro e w' ⟨rfl, rfl⟩)
  go_ret
  exact ⟨rfl, HB.out⟩
end Go.Proofs.Qxb6614540aFmt
