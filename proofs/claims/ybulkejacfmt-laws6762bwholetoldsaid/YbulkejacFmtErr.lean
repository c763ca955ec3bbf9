/-
  fmt.Errorf's stop and errors.Is at this program's own types and numbers: closed facts, and the one contract of errors.Is that the road needs. After the kit's worked texts for the like (turned to this program).
-/
import Derived.Test.YbulkejacFmtBase
import Derived.Stop.CallBack
import Derived.Stop.IfaceNil
import Derived.Stop.Asserts
import Derived.RowKitTokens
import GoSem.ClaimData
namespace Go.Proofs
open Go.Extern.Stop Go.Stop Go.Extern

theorem Ybaf.call11 (args : Array Value) (w : World) : (callFunc 11 args).run Ybaf.prog w = ((FmtStop.errorf #[9, 68] #[55] args).run Ybaf.prog w).andThen fun v w' => .ok (.value v) w' :=
  run_callFunc_extern Ybaf.func11 (by kernel_rfl) (by kernel_rfl) (by kernel_rfl) (by kernel_rfl) args w
theorem Ybaf.guard (name : String) (w : World) : (FmtStop.guard name).run Ybaf.prog w = .ok () w := by kernel_rfl
theorem Ybaf.fmt0 : FmtStop.printed? ⟨#[37, 119, 58, 32, 105, 116, 105, 110, 101, 114, 97, 114, 121, 32, 37, 113]⟩ 2 = some [(0, 119, false), (1, 113, false)] := by kernel_rfl
theorem Ybaf.fmt0r (w : World) : (FmtDoors.printed ⟨#[37, 119, 58, 32, 105, 116, 105, 110, 101, 114, 97, 114, 121, 32, 37, 113]⟩ 2).run Ybaf.prog w = .ok [(0, 119, false), (1, 113, false)] w := by kernel_rfl
def Ybaf.shape9 : List UInt8 := [12, 6, 0, 0, 0, 0, 0, 0, 0, 115, 116, 114, 105, 110, 103]
theorem Ybaf.op9_113w (name : String) (x : ByteArray) (w : World) : (FmtStop.operand name true 113 false (.iface 9 (.string x))).run Ybaf.prog w = .ok (Ybaf.shape9, FmtStop.pack x.data.toList) w := by kernel_rfl
theorem Ybaf.ptr82 (w : World) : (FmtStop.ptrTo "errors.errorString").run Ybaf.prog w = .ok 82 w := by kernel_rfl
theorem Ybaf.elem82 (w : World) : (elemOf 82).run Ybaf.prog w = .ok 84 w := by kernel_rfl
theorem Ybaf.isError82' (w : World) : (FmtDoors.textMethod 82 "Error").run Ybaf.prog w = .ok true w := by kernel_rfl
/-- The listed error's own type name, as the row gives it. -/
def Ybaf.errName : String := match (YbulkejacFmt.Rows.laid_example_com_tessera_tessera_calendar_ErrNotFound : DataW Unit) with
  | .iface n _ => n
  | _ => ""
theorem Ybaf.name82 : Ybaf.prog.typeName? 3 82 = some Ybaf.errName := by kernel_rfl
def Ybaf.plain82 : List UInt8 := 14 :: FmtStop.pack Ybaf.errName.toUTF8.data.toList
theorem Ybaf.opPlain82_119w (name : String) (a : Addr) (s : ByteArray) (w : World) (hc : w.cell? a = some (.string s)) :
    (FmtStop.operand name true 119 false (.iface 82 (.pointer (some a)))).run Ybaf.prog w = .ok (Ybaf.plain82, s.data.toList) w := by
  have h1 : (typeStr 82).run Ybaf.prog w = .ok Ybaf.errName w := by kernel_rfl
  have d2 : Ybaf.t82.desc = .pointer 84 := rfl
  have d3 : Ybaf.t84.desc = .named "errors.errorString" 83 := rfl
  simp [FmtStop.operand, h1, d2, d3, run_load, hc, Ybaf.plain82]
theorem Ybaf.ptr70 (w : World) : (FmtStop.ptrTo "fmt.wrapError").run Ybaf.prog w = .ok 70 w := by kernel_rfl
theorem Ybaf.elem70 (w : World) : (elemOf 70).run Ybaf.prog w = .ok 117 w := by kernel_rfl
theorem Ybaf.isError70' (w : World) : (FmtDoors.textMethod 70 "Error").run Ybaf.prog w = .ok true w := by kernel_rfl

theorem Ybaf.isTypeOf (v : Value) (w : World) : (Extern.ReflectliteType.typeOf #[.iface 82 v]).run Ybaf.prog w = .ok (.iface 72 (.agg #[.pointer (some ⟨1, 82, none⟩)])) w := by kernel_rfl
theorem Ybaf.call36 (w : World) : (callFunc 36 #[.agg #[.pointer (some ⟨1, 82, none⟩)]]).run Ybaf.prog w = .ok (.value (.bool true)) w := by
  rw [@run_callFunc_extern Ybaf.prog 36 _ (Extern.ReflectliteType.method fun t => do Extern.Rtype.noPackHeld "Comparable" t; pure (.bool (← typeInfo t).comparable)) Ybaf.func36 (by kernel_rfl) (by kernel_rfl) (by kernel_rfl) (by kernel_rfl)]
  kernel_rfl
theorem Ybaf.isMethodComparable (v : Value) (w : World) : (Go.method 239 72 v "Comparable").run Ybaf.prog w = .ok (36, v) w := by kernel_rfl
theorem Ybaf.isComp : (Ybaf.prog.info? 82).map (·.comparable) = some true := by kernel_rfl
theorem Ybaf.isSize : (Ybaf.prog.info? 84).map (·.size) = some 1 := by kernel_rfl
theorem Ybaf.noIsE (v : Value) (xT : TypeId) (w : World) : (Instr.typeAssert (.iface 82 v) xT 74 true).run Ybaf.prog w = .ok (.tuple #[.nilIface, .bool false]) w := run_typeAssert_lacksB Ybaf.underlying74 (by kernel_rfl) (by kernel_rfl) v xT w
theorem Ybaf.noIsW (v : Value) (xT : TypeId) (w : World) : (Instr.typeAssert (.iface 70 v) xT 74 true).run Ybaf.prog w = .ok (.tuple #[.nilIface, .bool false]) w := run_typeAssert_lacksB Ybaf.underlying74 (by kernel_rfl) (by kernel_rfl) v xT w
theorem Ybaf.hasUnwrapW (v : Value) (xT : TypeId) (w : World) : (Instr.typeAssert (.iface 70 v) xT 77 true).run Ybaf.prog w = .ok (.tuple #[.iface 70 v, .bool true]) w := run_typeAssert_hasB Ybaf.underlying77 (by kernel_rfl) v xT w
theorem Ybaf.methodUnwrap (v : Value) (w : World) : (Go.method 239 70 v "Unwrap").run Ybaf.prog w = .ok (32, v) w := by kernel_rfl

namespace YbulkejacFmt
open Go.RowKit Go.Extern.Stop Go.Stop Go.Extern
set_option maxRecDepth 100000 in
/-- errors.Is(e, x), e a *fmt.wrapError that wraps x itself: one Unwrap, then equal. -/
theorem is_wrap_same (pb po : Nat) (b : Addr) (w : World) (h1 : w.cell? ⟨pb, po + 1, none⟩ = some (.iface 82 (.pointer (some b)))) :
    Calls Ybaf.prog 6 #[.iface 70 (.pointer (some ⟨pb, po, none⟩)), .iface 82 (.pointer (some b))] w fun e w' => e = .returned (.bool true) ∧ w' = w := by
  obtain ⟨i, hi, hcmp⟩ := Option.map_eq_some_iff.1 Ybaf.isComp
  obtain ⟨j, hj, hjs⟩ := Option.map_eq_some_iff.1 Ybaf.isSize
  have h8 := @run_callFunc_extern Ybaf.prog 9 _ Extern.ReflectliteType.typeOf Ybaf.func9 (by kernel_rfl) (by kernel_rfl) (by kernel_rfl) (by kernel_rfl)
  have h32 := Ybaf.call36
  have tT := Ybaf.isTypeOf
  have mR := Ybaf.isMethodComparable
  have nE := Ybaf.noIsE
  have nW := Ybaf.noIsW
  have uW := Ybaf.hasUnwrapW
  have mU := Ybaf.methodUnwrap
  have heq := run_eql_iface_ptr_same (P := Ybaf.prog) w b Ybaf.underlying55 Ybaf.underlying82 hi hcmp hj
  have hty := run_eql_iface_types (P := Ybaf.prog) 70 82 (.pointer (some ⟨pb, po, none⟩)) (.pointer (some b)) Ybaf.underlying55 (by decide) w
  go_enter Ybaf.func6, Ybaf.ntmps6
  go_wp2
  refine wp_loop_rounds 2 ?_
  rw [rounds_succ]
  go_wp2
  rw [rounds_succ]
  go_wp2
  go_ret
  exact ⟨rfl, rfl⟩
end YbulkejacFmt
end Go.Proofs
