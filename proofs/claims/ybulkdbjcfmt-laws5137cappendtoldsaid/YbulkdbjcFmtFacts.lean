import Derived.Test.YbulkdbjcFmtChecked
import Derived.WalkKit
import Derived.Stop.CallBack
import Derived.Stop.IfaceNil
import Derived.LaidEql
import Derived.Stop.Asserts
import Derived.RowKitTokens
import GoSem.ClaimData
/-! Closed facts for the walk over fmt.errorf's stop and over errors.Is, after the guide's SentryFmt.lean and SentryIs.lean, at this dump's numbers: 35: error, 76: pointer to errors.errorString, 78: errors.errorString, 106: pointer to fmt.wrapError, 147: fmt.wrapError, 96: reflectlite's rtype, 98, 101, 102: the three interfaces of errors.is. -/
namespace Go.Proofs
open Go.Extern.Stop Go.Stop Go.Extern

theorem Ybaf.call35 (args : Array Value) (w : World) : (callFunc 35 args).run Ybaf.prog w = ((FmtStop.errorf #[9, 105] #[35] args).run Ybaf.prog w).andThen fun v w' => .ok (.value v) w' :=
  run_callFunc_extern Ybaf.func35 (by kernel_rfl) (by kernel_rfl) (by kernel_rfl) (by kernel_rfl) args w
theorem Ybaf.guard (name : String) (w : World) : (FmtStop.guard name).run Ybaf.prog w = .ok () w := by kernel_rfl
theorem Ybaf.fmt0 : FmtStop.printed? ⟨#[37, 119, 58, 32, 87, 97, 108, 108, 32, 37, 100, 32, 105, 115, 32, 110, 101, 103, 97, 116, 105, 118, 101, 59, 32, 110, 111, 32, 119, 105, 114, 101, 32, 102, 111, 114, 109, 32, 104, 111, 108, 100, 115, 32, 105, 116]⟩ 2 = some [(0, 119, false), (1, 100, false)] := by kernel_rfl
theorem Ybaf.fmt0r (w : World) : (FmtDoors.printed ⟨#[37, 119, 58, 32, 87, 97, 108, 108, 32, 37, 100, 32, 105, 115, 32, 110, 101, 103, 97, 116, 105, 118, 101, 59, 32, 110, 111, 32, 119, 105, 114, 101, 32, 102, 111, 114, 109, 32, 104, 111, 108, 100, 115, 32, 105, 116]⟩ 2).run Ybaf.prog w = .ok [(0, 119, false), (1, 100, false)] w := by kernel_rfl
theorem Ybaf.name2 : Ybaf.prog.typeName? 3 2 = some "int64" := by kernel_rfl
def Ybaf.shape2 : List UInt8 := [5, 5, 0, 0, 0, 0, 0, 0, 0, 105, 110, 116, 54, 52]
theorem Ybaf.op2_100w (name : String) (x : Int) (w : World) : (FmtStop.operand name true 100 false (.iface 2 (.int .i64 x))).run Ybaf.prog w = .ok (Ybaf.shape2, Go.Extern.Stop.digits 8 (x % 2 ^ 64).toNat) w := by kernel_rfl
theorem Ybaf.ptr76 (w : World) : (FmtStop.ptrTo "errors.errorString").run Ybaf.prog w = .ok 76 w := by kernel_rfl
theorem Ybaf.elem76 (w : World) : (elemOf 76).run Ybaf.prog w = .ok 78 w := by kernel_rfl
theorem Ybaf.isError76' (w : World) : (FmtDoors.textMethod 76 "Error").run Ybaf.prog w = .ok true w := by kernel_rfl
theorem Ybaf.name76 : Ybaf.prog.typeName? 3 76 = some "*errors.errorString" := by kernel_rfl
def Ybaf.plain76 : List UInt8 := 14 :: FmtStop.pack "*errors.errorString".toUTF8.data.toList
theorem Ybaf.opPlain76_119w (name : String) (a : Addr) (s : ByteArray) (w : World) (hc : w.cell? a = some (.string s)) :
    (FmtStop.operand name true 119 false (.iface 76 (.pointer (some a)))).run Ybaf.prog w = .ok (Ybaf.plain76, s.data.toList) w := by
  have h1 : (typeStr 76).run Ybaf.prog w = .ok "*errors.errorString" w := by kernel_rfl
  have d2 : Ybaf.t76.desc = .pointer 78 := rfl
  have d3 : Ybaf.t78.desc = .named "errors.errorString" 77 := rfl
  simp [FmtStop.operand, h1, d2, d3, run_load, hc, Ybaf.plain76]
theorem Ybaf.ptr106 (w : World) : (FmtStop.ptrTo "fmt.wrapError").run Ybaf.prog w = .ok 106 w := by kernel_rfl
theorem Ybaf.elem106 (w : World) : (elemOf 106).run Ybaf.prog w = .ok 147 w := by kernel_rfl
theorem Ybaf.isError106' (w : World) : (FmtDoors.textMethod 106 "Error").run Ybaf.prog w = .ok true w := by kernel_rfl

theorem Ybaf.isTypeOf (v : Value) (w : World) : (Extern.ReflectliteType.typeOf #[.iface 76 v]).run Ybaf.prog w = .ok (.iface 96 (.agg #[.pointer (some ⟨3, 76, none⟩)])) w := by kernel_rfl
theorem Ybaf.isComparable (w : World) : ((Extern.ReflectliteType.method fun t => do Extern.Rtype.noPackHeld "Comparable" t; pure (.bool (← typeInfo t).comparable)) #[.agg #[.pointer (some ⟨3, 76, none⟩)]]).run Ybaf.prog w = .ok (.bool true) w := by kernel_rfl
theorem Ybaf.comp79 (w : World) : (callFunc 79 #[.agg #[.pointer (some ⟨3, 76, none⟩)]]).run Ybaf.prog w = .ok (.value (.bool true)) w := by
  rw [@run_callFunc_extern Ybaf.prog 79 _ (Extern.ReflectliteType.method fun t => do Extern.Rtype.noPackHeld "Comparable" t; pure (.bool (← typeInfo t).comparable)) Ybaf.func79 (by kernel_rfl) (by kernel_rfl) (by kernel_rfl) (by kernel_rfl), Ybaf.isComparable]
  rfl
theorem Ybaf.typeOf26 (v : Value) (w : World) : (callFunc 26 #[.iface 76 v]).run Ybaf.prog w = .ok (.value (.iface 96 (.agg #[.pointer (some ⟨3, 76, none⟩)]))) w := by
  rw [@run_callFunc_extern Ybaf.prog 26 _ Extern.ReflectliteType.typeOf Ybaf.func26 (by kernel_rfl) (by kernel_rfl) (by kernel_rfl) (by kernel_rfl), Ybaf.isTypeOf]
  rfl
theorem Ybaf.isComp : (Ybaf.prog.info? 76).map (·.comparable) = some true := by kernel_rfl
theorem Ybaf.isSize : (Ybaf.prog.info? 78).map (·.size) = some 1 := by kernel_rfl
theorem Ybaf.noIsE (v : Value) (xT : TypeId) (w : World) : (Instr.typeAssert (.iface 76 v) xT 98 true).run Ybaf.prog w = .ok (.tuple #[.nilIface, .bool false]) w := run_typeAssert_lacksB Ybaf.underlying98 (by kernel_rfl) (by kernel_rfl) v xT w
theorem Ybaf.noIsW (v : Value) (xT : TypeId) (w : World) : (Instr.typeAssert (.iface 106 v) xT 98 true).run Ybaf.prog w = .ok (.tuple #[.nilIface, .bool false]) w := run_typeAssert_lacksB Ybaf.underlying98 (by kernel_rfl) (by kernel_rfl) v xT w
theorem Ybaf.hasUnwrapW (v : Value) (xT : TypeId) (w : World) : (Instr.typeAssert (.iface 106 v) xT 101 true).run Ybaf.prog w = .ok (.tuple #[.iface 106 v, .bool true]) w := run_typeAssert_hasB Ybaf.underlying101 (by kernel_rfl) v xT w
theorem Ybaf.isMethodComparable (v : Value) (w : World) : (Go.method 261 96 v "Comparable").run Ybaf.prog w = .ok (79, v) w := by kernel_rfl
theorem Ybaf.methodUnwrap (v : Value) (w : World) : (Go.method 261 106 v "Unwrap").run Ybaf.prog w = .ok (89, v) w := by kernel_rfl

end Go.Proofs
