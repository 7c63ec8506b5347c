/-
  THE CLOSED FACTS FOR A WALK OVER fmt's STOPPED FRONT AND errors.Is, turned to this dump after the guide's SentryFmt.lean and SentryIs.lean.
-/
import Derived.Test.Qxb6614540aFmtRows
import Derived.WalkKit
import Derived.WalkSpells
import Derived.Stop.CallBack
import Derived.Stop.IfaceNil
import Derived.LaidEql
import Derived.Stop.Asserts
import Derived.RowKitTokens
import GoSem.ClaimData
namespace Go.Proofs.Qxb6614540aFmt
open Go.RowKit Go.Extern.Stop Go.Stop Go.Extern

theorem Tryf.call11 (args : Array Value) (w : World) : (callFunc 11 args).run Tryf.prog w = ((FmtStop.errorf #[9, 51] #[24] args).run Tryf.prog w).andThen fun v w' => .ok (.value v) w' :=
  run_callFunc_extern Tryf.func11 (by kernel_rfl) (by kernel_rfl) (by kernel_rfl) (by kernel_rfl) args w
theorem Tryf.guard (name : String) (w : World) : (FmtStop.guard name).run Tryf.prog w = .ok () w := by kernel_rfl

/-- The two formats. -/
abbrev fA : List UInt8 := [37, 119, 58, 32, 110, 111, 100, 101, 32, 37, 100, 32, 110, 111, 32, 108, 111, 110, 103, 101, 114, 32, 108, 101, 97, 100, 115, 32, 116, 101, 114, 109, 32, 37, 100, 44, 32, 97, 110, 100, 32, 104, 97, 100, 32, 110, 111, 116, 32, 97, 112, 112, 108, 105, 101, 100, 32, 119, 104, 97, 116, 32, 101, 97, 114, 108, 105, 101, 114, 32, 116, 101, 114, 109, 115, 32, 99, 111, 109, 109, 105, 116, 116, 101, 100]
abbrev fB : List UInt8 := [37, 119, 58, 32, 110, 111, 100, 101, 32, 37, 100, 32, 110, 111, 32, 108, 111, 110, 103, 101, 114, 32, 108, 101, 97, 100, 115, 32, 116, 101, 114, 109, 32, 37, 100, 44, 32, 97, 110, 100, 32, 99, 111, 117, 108, 100, 32, 110, 111, 116, 32, 99, 111, 110, 102, 105, 114, 109, 32, 116, 104, 97, 116, 32, 105, 116, 32, 115, 116, 105, 108, 108, 32, 108, 101, 100, 32, 97, 102, 116, 101, 114, 32, 116, 104, 101, 32, 98, 97, 114, 114, 105, 101, 114, 32, 99, 97, 109, 101]
theorem Tryf.fmtA : FmtStop.printed? ⟨fA.toArray⟩ 3 = some [(0, 119, false), (1, 100, false), (2, 100, false)] := by kernel_rfl
theorem Tryf.fmtAr (w : World) : (FmtDoors.printed ⟨fA.toArray⟩ 3).run Tryf.prog w = .ok [(0, 119, false), (1, 100, false), (2, 100, false)] w := by kernel_rfl
theorem Tryf.fmtB : FmtStop.printed? ⟨fB.toArray⟩ 3 = some [(0, 119, false), (1, 100, false), (2, 100, false)] := by kernel_rfl
theorem Tryf.fmtBr (w : World) : (FmtDoors.printed ⟨fB.toArray⟩ 3).run Tryf.prog w = .ok [(0, 119, false), (1, 100, false), (2, 100, false)] w := by kernel_rfl

def Tryf.shape22 : List UInt8 := [9, 6, 0, 0, 0, 0, 0, 0, 0, 117, 105, 110, 116, 54, 52]
theorem Tryf.op22_100w (name : String) (x : Int) (w : World) : (FmtStop.operand name true 100 false (.iface 22 (.int .u64 x))).run Tryf.prog w = .ok (Tryf.shape22, Go.Extern.Stop.digits 8 (x % 2 ^ 64).toNat) w := by kernel_rfl
theorem Tryf.ptr64 (w : World) : (FmtStop.ptrTo "errors.errorString").run Tryf.prog w = .ok 64 w := by kernel_rfl
theorem Tryf.elem64 (w : World) : (elemOf 64).run Tryf.prog w = .ok 66 w := by kernel_rfl
theorem Tryf.isError64 (w : World) : (FmtDoors.textMethod 64 "Error").run Tryf.prog w = .ok true w := by kernel_rfl
theorem Tryf.ptr53 (w : World) : (FmtStop.ptrTo "fmt.wrapError").run Tryf.prog w = .ok 53 w := by kernel_rfl
theorem Tryf.elem53 (w : World) : (elemOf 53).run Tryf.prog w = .ok 97 w := by kernel_rfl
theorem Tryf.isError53 (w : World) : (FmtDoors.textMethod 53 "Error").run Tryf.prog w = .ok true w := by kernel_rfl
/-- An error of errors.New's make as an operand under %w: it reads as a shape (its type's name) and its text, out of memory. -/
theorem Tryf.opPlain64 : ∃ sh : List UInt8, ∀ (name : String) (a : Addr) (s : ByteArray) (w : World), w.cell? a = some (.string s) →
    (FmtStop.operand name true 119 false (.iface 64 (.pointer (some a)))).run Tryf.prog w = .ok (sh, s.data.toList) w := by
  refine ⟨14 :: FmtStop.pack ((Tryf.prog.typeName? 3 64).getD "").toUTF8.data.toList, fun name a s w hc => ?_⟩
  have h1 : (typeStr 64).run Tryf.prog w = .ok ((Tryf.prog.typeName? 3 64).getD "") w := by kernel_rfl
  have d2 : Tryf.t64.desc = .pointer 66 := rfl
  have d3 : Tryf.t66.desc = .named "errors.errorString" 65 := rfl
  generalize (Tryf.prog.typeName? 3 64).getD "" = nm at *
  simp [FmtStop.operand, h1, d2, d3, run_load, hc]

/-! ### errors.Is -/
theorem Tryf.isTypeOf (v : Value) (w : World) : (Extern.ReflectliteType.typeOf #[.iface 64 v]).run Tryf.prog w = .ok (.iface 55 (.agg #[.pointer (some ⟨1, 64, none⟩)])) w := by kernel_rfl
theorem Tryf.isComparable (w : World) : (callFunc 36 #[.agg #[.pointer (some ⟨1, 64, none⟩)]]).run Tryf.prog w = .ok (.value (.bool true)) w := by
  refine (@run_callFunc_extern Tryf.prog 36 _ (Extern.ReflectliteType.method fun t => do Extern.Rtype.noPackHeld "Comparable" t; pure (.bool (← typeInfo t).comparable)) Tryf.func36 (by kernel_rfl) (by kernel_rfl) (by kernel_rfl) (by kernel_rfl) _ w).trans ?_
  kernel_rfl
theorem Tryf.isMethodComparable (v : Value) (w : World) : (Go.method 212 55 v "Comparable").run Tryf.prog w = .ok (36, v) w := by kernel_rfl
theorem Tryf.isComp : (Tryf.prog.info? 64).map (·.comparable) = some true := by kernel_rfl
theorem Tryf.isSize : (Tryf.prog.info? 66).map (·.size) = some 1 := by kernel_rfl
theorem Tryf.noIsW (v : Value) (xT : TypeId) (w : World) : (Instr.typeAssert (.iface 53 v) xT 57 true).run Tryf.prog w = .ok (.tuple #[.nilIface, .bool false]) w := run_typeAssert_lacksB Tryf.underlying57 (by kernel_rfl) (by kernel_rfl) v xT w
theorem Tryf.hasUnwrapW (v : Value) (xT : TypeId) (w : World) : (Instr.typeAssert (.iface 53 v) xT 59 true).run Tryf.prog w = .ok (.tuple #[.iface 53 v, .bool true]) w := run_typeAssert_hasB Tryf.underlying59 (by kernel_rfl) v xT w
theorem Tryf.methodUnwrap (v : Value) (w : World) : (Go.method 212 53 v "Unwrap").run Tryf.prog w = .ok (32, v) w := by kernel_rfl

/-- errors.Is(e, x), e a *fmt.wrapError that wraps x itself: one Unwrap, then equal. -/
theorem is_wrap_same (pb po : Nat) (b : Addr) (w : World) (h1 : w.cell? ⟨pb, po + 1, none⟩ = some (.iface 64 (.pointer (some b)))) :
    Calls Tryf.prog 7 #[.iface 53 (.pointer (some ⟨pb, po, none⟩)), .iface 64 (.pointer (some b))] w fun e w' => e = .returned (.bool true) ∧ w' = w := by
  obtain ⟨i, hi, hcmp⟩ := Option.map_eq_some_iff.1 Tryf.isComp
  obtain ⟨j, hj, hjs⟩ := Option.map_eq_some_iff.1 Tryf.isSize
  have h9 := @run_callFunc_extern Tryf.prog 9 _ Extern.ReflectliteType.typeOf Tryf.func9 (by kernel_rfl) (by kernel_rfl) (by kernel_rfl) (by kernel_rfl)
  have tT := Tryf.isTypeOf
  have cT := Tryf.isComparable
  have mR := Tryf.isMethodComparable
  have nW := Tryf.noIsW
  have uW := Tryf.hasUnwrapW
  have mU := Tryf.methodUnwrap
  have heq := run_eql_iface_ptr_same (P := Tryf.prog) w b Tryf.underlying24 Tryf.underlying64 hi hcmp hj
  have hty := run_eql_iface_types (P := Tryf.prog) 53 64 (.pointer (some ⟨pb, po, none⟩)) (.pointer (some b)) Tryf.underlying24 (by decide) w
  go_enter Tryf.func7, Tryf.ntmps7
  go_wp2
  refine wp_loop_rounds 2 ?_
  rw [rounds_succ]
  go_wp2
  rw [rounds_succ]
  go_wp2
  go_ret
  exact ⟨rfl, rfl⟩
end Go.Proofs.Qxb6614540aFmt
