/-
  THE WALKS: zzBytes, targetPath over fmt's stop, the law.
-/
import Derived.Test.Qxb6605656aFmtWa
import Derived.Stop.CallBack
import Derived.Stop.IfaceNil
import GoSem.ClaimData
namespace Go.Proofs.Qxb6605656aFmt
open Go.RowKit Go.Extern.Stop Go.Stop Go.Extern

theorem Tryf.call8 (args : Array Value) (w : World) : (callFunc 8 args).run Tryf.prog w = ((FmtStop.sprintf #[9, 44] #[9] args).run Tryf.prog w).andThen fun v w' => .ok (.value v) w' :=
  run_callFunc_extern Tryf.func8 (by kernel_rfl) (by kernel_rfl) (by kernel_rfl) (by kernel_rfl) args w
theorem Tryf.guard (name : String) (w : World) : (FmtStop.guard name).run Tryf.prog w = .ok () w := by kernel_rfl
/-- The format. -/
abbrev fT : List UInt8 := [37, 115, 46, 116, 97, 114, 103, 101, 116, 115, 91, 37, 100, 93]
theorem Tryf.fmtT : FmtStop.printed? ⟨fT.toArray⟩ 2 = some [(0, 115, false), (1, 100, false)] := by kernel_rfl
theorem Tryf.fmtTr (w : World) : (FmtDoors.printed ⟨fT.toArray⟩ 2).run Tryf.prog w = .ok [(0, 115, false), (1, 100, false)] w := by kernel_rfl
def Tryf.shape3 : List UInt8 := [5, 3, 0, 0, 0, 0, 0, 0, 0, 105, 110, 116]
theorem Tryf.op3_100 (name : String) (x : Int) (w : World) : (FmtStop.operand name false 100 false (.iface 3 (.int .i64 x))).run Tryf.prog w = .ok (Tryf.shape3, Go.Extern.Stop.digits 8 (x % 2 ^ 64).toNat) w := by kernel_rfl
def Tryf.shape9 : List UInt8 := [12, 6, 0, 0, 0, 0, 0, 0, 0, 115, 116, 114, 105, 110, 103]
theorem Tryf.op9_115 (name : String) (x : ByteArray) (w : World) : (FmtStop.operand name false 115 false (.iface 9 (.string x))).run Tryf.prog w = .ok (Tryf.shape9, FmtStop.pack x.data.toList) w := by kernel_rfl

attribute [local go_sem] Tryf.call8 Tryf.guard Tryf.fmtT Tryf.fmtTr Tryf.op3_100 Tryf.op9_115

/-- What fmt is asked. -/
def tReading (p : List UInt8) (i : Int) : List (List UInt8) := [fT, Tryf.shape9, FmtStop.pack p, Tryf.shape3, digits 8 (i % 18446744073709551616).toNat]

set_option maxHeartbeats 400000 in
set_option maxRecDepth 100000 in
theorem target_any (F : Interp) (p : ByteArray) (i : Int) (w : World) (hF : F.answers w.tape) :
    Calls Tryf.prog 5 #[.string p, .int .i64 i] w fun e w' => e = .returned (.string (FmtStop.textOf (F "fmt.Sprintf" (tReading p.data.toList i) 0))) ∧ Below w.heap.size w w' := by
  have hF' := answers_open hF
  go_enter Tryf.func5, Tryf.ntmps5
  go_wp2
  go_ret
  exact ⟨rfl, ((Below.refl _ _).alloc (Nat.le_refl _) _).drew⟩

set_option maxHeartbeats 400000 in
set_option maxRecDepth 100000 in
theorem zz_any (p : ByteArray) (i : Int) (w : World) (hp : p.size ≤ maxLen) :
    Calls Tryf.prog 4 #[.string p, .int .i64 i] w fun e w' => (∃ r : Bool, e = .returned (.bool r)) ∧ w' = w := by
  unfold maxLen at hp
  by_cases h : p.size ≤ 1048576
  · go_enter Tryf.func4, Tryf.ntmps4
    go_wp2
    go_ret
    exact ⟨⟨_, rfl⟩, rfl⟩
  · go_enter Tryf.func4, Tryf.ntmps4
    go_wp2
    go_ret
    exact ⟨⟨_, rfl⟩, rfl⟩

/-- '.targets[' -/
abbrev mid : List UInt8 := [46, 116, 97, 114, 103, 101, 116, 115, 91]

theorem get_list (s : ByteArray) (i : Nat) (h : i < s.size) : s[i] = s.data.toList[i]'(by rw [← Lib.size_eq]; exact h) := rfl

/-- A numeral parses back. -/
theorem parse_itoa (u : ByteArray) (i : Int) (w : World) (h0 : -9223372036854775808 ≤ i) (h1 : i ≤ 9223372036854775807) (hu : u.data.toList = Lib.itoa i) :
    Calls Tryf.prog 6 #[.string u] w fun e w' => e = .returned (.tuple #[.int .i64 i, .bool true]) ∧ w' = w := by
  have hl := Lib.itoa_length_le i h0 h1
  have hsz : u.size = (Lib.itoa i).length := by rw [Lib.size_eq, hu]
  by_cases hi : i < 0
  · have e : Lib.itoa i = 45 :: Lib.decDigits i.natAbs := by rw [Lib.itoa, if_pos hi]
    rw [e] at hu hsz
    have hp := dec_pos i.natAbs
    simp only [List.length_cons] at hsz
    rw [e, List.length_cons] at hl
    have hnv : nv u = i := by
      unfold nv; rw [hu, List.drop_one, List.tail_cons, hv_dec]; omega
    have hgo := parse_neg u w (by omega) (by omega) ?_ ?_ ?_ ?_
    · rw [hnv] at hgo; exact hgo
    · rw [get_list]; simp only [hu]; rfl
    · intro j hj h1j
      rw [get_list]; simp only [hu]
      obtain ⟨j, rfl⟩ : ∃ k, j = k + 1 := ⟨j - 1, by omega⟩
      simp only [List.getElem_cons_succ]
      have := dec_digit i.natAbs _ (List.getElem_mem (l := Lib.decDigits i.natAbs) (n := j) (by omega))
      omega
    · rw [get_list]; simp only [hu]
      simp only [List.getElem_cons_succ]
      intro hc
      have := dec_head i.natAbs (by omega)
      omega
    · rw [hu, List.drop_one, List.tail_cons, hv_dec]; omega
  · have e : Lib.itoa i = Lib.decDigits i.toNat := by rw [Lib.itoa, if_neg hi]
    rw [e] at hu hsz
    have hp := dec_pos i.toNat
    rw [e] at hl
    have hnv : ((hv u.data.toList : Nat) : Int) = i := by
      rw [hu, hv_dec]; omega
    have hgo := parse_pos u w (by omega) (by omega) ?_ ?_ ?_
    · rw [hnv] at hgo; exact hgo
    · intro j hj
      rw [get_list]; simp only [hu]
      have := dec_digit i.toNat _ (List.getElem_mem (l := Lib.decDigits i.toNat) (n := j) (by omega))
      omega
    · rw [get_list]; simp only [hu]
      intro hc
      have := dec_head i.toNat (by omega)
      rw [hsz, this, dec_zero]; rfl
    · omega

theorem ext_list (t : ByteArray) (a b : Nat) : (t.extract a b).data.toList = (t.data.toList.take b).drop a := by
  rw [ByteArray.data_extract, Array.toList_extract, List.extract_eq_drop_take']

set_option maxHeartbeats 400000 in
set_option maxRecDepth 100000 in
theorem law_any (F : Interp) (p : ByteArray) (i : Int) (w : World) (hF : F.answers w.tape) (hp : p.size ≤ maxLen) (h0 : -9223372036854775808 ≤ i) (h1 : i ≤ 9223372036854775807)
    (ht : p.size ≤ 1048576 → (FmtStop.textOf (F "fmt.Sprintf" (tReading p.data.toList i) 0)).data.toList = p.data.toList ++ mid ++ Lib.itoa i ++ [93]) :
    Calls Tryf.prog 3 #[.string p, .int .i64 i] w fun e w' => e = .returned (.bool true) ∧ Below w.heap.size w w' := by
  have hp' := hp
  unfold maxLen at hp'
  have HT : Hid _ := ht
  clear ht
  go_enter Tryf.func3, Tryf.ntmps3
  go_wp2_with fail
  refine (zz_any p i _ hp).mono ?_
  rintro e w ⟨⟨r, rfl⟩, rfl⟩
  cases r with
  | false =>
    go_wp2
    go_ret
    exact ⟨rfl, Below.refl _ _⟩
  | true =>
  by_cases h20 : p.size ≤ 1048576
  case neg =>
    go_wp2
    go_ret
    exact ⟨rfl, Below.refl _ _⟩
  go_wp2_with fail
  refine (target_any F p i _ hF).mono ?_
  rintro e w1 ⟨rfl, hb⟩
  have htx := HT.out h20
  generalize FmtStop.textOf (F "fmt.Sprintf" (tReading p.data.toList i) 0) = t at *
  obtain ⟨ds, hds⟩ : ∃ ds, Lib.itoa i = ds := ⟨_, rfl⟩
  rw [hds] at htx
  have hpl := Lib.size_eq p
  have hlen : t.size = p.size + 9 + ds.length + 1 := by
    rw [Lib.size_eq t, htx, hpl]; simp only [List.length_append, List.length_cons, List.length_nil]
  have hdl : 1 ≤ ds.length ∧ ds.length ≤ 21 := by
    refine ⟨?_, by rw [← hds]; exact Lib.itoa_length_le i h0 h1⟩
    rw [← hds, Lib.itoa]
    split
    · simp
    · exact dec_pos _
  have hz1 : t.size ≤ p.size + 9 + 21 + 1 := by omega
  have hz2 : p.size + 9 + 1 + 1 ≤ t.size := by omega
  have hz3 : t.size - 1 < t.size := by omega
  have e1 : (t.extract 0 p.size).data.toList = p.data.toList := by
    rw [ext_list, htx, List.append_assoc, List.append_assoc, List.take_left' hpl.symm, List.drop_zero]
  have e2 : (t.extract p.size (p.size + 9)).data.toList = mid := by
    rw [ext_list, htx, List.append_assoc, List.append_assoc, hpl, List.take_length_add_append, List.drop_left]
    exact List.take_left' (l₁ := mid) rfl
  have e3 : (t[t.size - 1]'hz3) = 93 := by
    rw [get_list]
    simp only [htx]
    rw [List.getElem_append_right (by simp only [List.length_append, List.length_cons, List.length_nil]; omega)]
    simp
  have e4 : (t.extract (p.size + 9) (t.size - 1)).data.toList = Lib.itoa i := by
    rw [ext_list, htx, hds, List.take_left' (by simp only [List.length_append, List.length_cons, List.length_nil]; omega), List.drop_left' (by simp only [List.length_append, List.length_cons, List.length_nil]; omega)]
  have f1 : (t.extract 0 p.size) = p := by
    apply ByteArray.ext; apply Array.toList_inj.1; exact e1
  have f3 : (((t[t.size - 1]'hz3).toNat : Int) != 93) = false := by rw [e3]; rfl
  have f2 : (t.extract p.size (p.size + 9)).toList = [46, 116, 97, 114, 103, 101, 116, 115, 91] := by
    have : t.extract p.size (p.size + 9) = ⟨mid.toArray⟩ := by apply ByteArray.ext; apply Array.toList_inj.1; exact e2
    exact (congrArg ByteArray.toList this).trans (by kernel_rfl)
  have HL : Hid _ := And.intro e4 hb
  clear htx hds hb hlen HT hdl e4 e3 hpl
  go_wp2_with fail
  refine (parse_itoa _ i _ h0 h1 HL.out.1).mono ?_
  rintro e w2 ⟨rfl, rfl⟩
  go_wp2
  go_ret
  exact ⟨rfl, HL.out.2⟩
end Go.Proofs.Qxb6605656aFmt
