/-
  errors.As at the concrete target '*fs.PathError', the error an '*os.LinkError' that wraps one: the model's entries for internal/reflectlite at this program's types, and the walk of Go's own text of errors.As and errors.as (two rounds: the LinkError is unwrapped once).
-/
import Derived.Test.Qxb6604726aDoorProg
import Derived.WalkKit
import Derived.LaidEql
import Derived.Stop.Asserts
import Derived.RowKitTokens
namespace Go.Proofs.Qxb6604726aDoor
open Go.RowKit Go.Extern.Stop Go.Stop Go.Extern

/-! types: 35: *fs.PathError · 49: **fs.PathError · 42: *os.LinkError · 37: error · 107: reflectlite's rtype · 58: reflectlite's Value · 5: how many package-level variables the dump has -/
theorem valueOf49 (t : Addr) (w : World) : (ReflectliteValue.unpack (.iface 49 (.pointer (some t)))).run Tryd.prog w
    = .ok (.agg #[.pointer (some ⟨5, 49, none⟩), .pointer (some ⟨w.heap.size, 0, none⟩), .int .u64 150]) (w.alloc (.cells #[.pointer (some t)] 49)) := by kernel_rfl
theorem type49 (a : Addr) (w : World) : (ReflectliteValue.methodAny (ReflectliteValue.valueError "reflectlite.Value.Type" 0) (fun t _ _ _ => ReflectliteType.toType t) #[.agg #[.pointer (some ⟨5, 49, none⟩), .pointer (some a), .int .u64 150]]).run Tryd.prog w
    = .ok (.iface 107 (.agg #[.pointer (some ⟨5, 49, none⟩)])) w := by kernel_rfl
theorem methodKind (h : Value) (w : World) : (Go.method 305 107 (.agg #[h]) "Kind").run Tryd.prog w = .ok (63, h) w := by kernel_rfl
theorem kind49 (w : World) : ((ReflectliteType.abiMethod fun t => (fun a : Nat => Value.int IntKind.u8 (a : Int)) <$> Rtype.kind t) #[.pointer (some ⟨5, 49, none⟩)]).run Tryd.prog w = .ok (.int .u8 22) w := by kernel_rfl
theorem kind35 (w : World) : ((ReflectliteType.abiMethod fun t => (fun a : Nat => Value.int IntKind.u8 (a : Int)) <$> Rtype.kind t) #[.pointer (some ⟨5, 35, none⟩)]).run Tryd.prog w = .ok (.int .u8 22) w := by kernel_rfl

theorem parts49 (a : Addr) (w : World) : (ReflectliteValue.parts (.agg #[.pointer (some ⟨5, 49, none⟩), .pointer (some a), .int .u64 150])).run Tryd.prog w = .ok (some (49, a, 150)) w := by kernel_rfl
theorem isNil49 (a p : Addr) (W : World) (ha : W.cell? a = some (.pointer (some p))) :
    (ReflectliteValue.method (ReflectliteValue.valueError "reflectlite.Value.IsNil" 0) ReflectliteValue.isNil #[.agg #[.pointer (some ⟨5, 49, none⟩), .pointer (some a), .int .u64 150]]).run Tryd.prog W = .ok (.bool false) W := by
  change (Bind.bind (ReflectliteValue.parts (.agg #[.pointer (some ⟨5, 49, none⟩), .pointer (some a), .int .u64 150])) _ : Sem Value).run Tryd.prog W = _
  simp only [Sem.run_bind, parts49, Result.andThen]
  simp [ReflectliteValue.isNil, loadVar, isAgg, underlying, Tryd.underlying49, ha, Result.andThen]

theorem methodElem (h : Value) (w : World) : (Go.method 305 107 (.agg #[h]) "Elem").run Tryd.prog w = .ok (78, .agg #[h]) w := by kernel_rfl
theorem methodImplements (h : Value) (w : World) : (Go.method 305 107 (.agg #[h]) "Implements").run Tryd.prog w = .ok (79, .agg #[h]) w := by kernel_rfl
theorem methodAssignableTo (h : Value) (w : World) : (Go.method 305 107 (.agg #[h]) "AssignableTo").run Tryd.prog w = .ok (76, .agg #[h]) w := by kernel_rfl
theorem methodUnwrap (h : Value) (w : World) : (Go.method 305 42 h "Unwrap").run Tryd.prog w = .ok (70, h) w := by kernel_rfl
theorem elem49 (w : World) : (ReflectliteType.method ReflectliteType.elem #[.agg #[.pointer (some ⟨5, 49, none⟩)]]).run Tryd.prog w = .ok (.iface 107 (.agg #[.pointer (some ⟨5, 35, none⟩)])) w := by kernel_rfl
theorem implements35 (w : World) : (ReflectliteType.relation "Implements" ReflectliteType.implements_ #[.agg #[.pointer (some ⟨5, 35, none⟩)], .iface 107 (.agg #[.pointer (some ⟨5, 37, none⟩)])]).run Tryd.prog w = .ok (.bool true) w := by kernel_rfl
theorem typeOf35 (v : Value) (w : World) : (ReflectliteType.typeOf #[.iface 35 v]).run Tryd.prog w = .ok (.iface 107 (.agg #[.pointer (some ⟨5, 35, none⟩)])) w := by kernel_rfl
theorem typeOf42 (v : Value) (w : World) : (ReflectliteType.typeOf #[.iface 42 v]).run Tryd.prog w = .ok (.iface 107 (.agg #[.pointer (some ⟨5, 42, none⟩)])) w := by kernel_rfl
theorem assignable35 (w : World) : (ReflectliteType.relation "AssignableTo" ReflectliteType.assignableTo #[.agg #[.pointer (some ⟨5, 35, none⟩)], .iface 107 (.agg #[.pointer (some ⟨5, 35, none⟩)])]).run Tryd.prog w = .ok (.bool true) w := by kernel_rfl
theorem assignable42 (w : World) : (ReflectliteType.relation "AssignableTo" ReflectliteType.assignableTo #[.agg #[.pointer (some ⟨5, 42, none⟩)], .iface 107 (.agg #[.pointer (some ⟨5, 35, none⟩)])]).run Tryd.prog w = .ok (.bool false) w := by kernel_rfl
theorem valueOf35 (e : Addr) (w : World) : (ReflectliteValue.unpack (.iface 35 (.pointer (some e)))).run Tryd.prog w
    = .ok (.agg #[.pointer (some ⟨5, 35, none⟩), .pointer (some ⟨w.heap.size, 0, none⟩), .int .u64 150]) (w.alloc (.cells #[.pointer (some e)] 35)) := by kernel_rfl
theorem noAs42 (v : Value) (xT : TypeId) (w : World) : (Instr.typeAssert (.iface 42 v) xT 112 true).run Tryd.prog w = .ok (.tuple #[.nilIface, .bool false]) w := run_typeAssert_lacksB Tryd.underlying112 (by kernel_rfl) (by kernel_rfl) v xT w
theorem unwrap42 (v : Value) (xT : TypeId) (w : World) : (Instr.typeAssert (.iface 42 v) xT 115 true).run Tryd.prog w = .ok (.tuple #[.iface 42 v, .bool true]) w := run_typeAssert_hasB Tryd.underlying115 (by kernel_rfl) v xT w

theorem elemOf49 (w : World) : (Rtype.elem? 49).run Tryd.prog w = .ok (some 35) w := by kernel_rfl
theorem mk35 (p : Addr) (w : World) : (ReflectliteValue.mk 35 p ReflectliteValue.flagAddr).run Tryd.prog w = .ok (.agg #[.pointer (some ⟨5, 35, none⟩), .pointer (some p), .int .u64 406]) w := by kernel_rfl
theorem elemV49 (a p : Addr) (W : World) (ha : W.cell? a = some (.pointer (some p))) :
    (ReflectliteValue.method (ReflectliteValue.valueError "reflectlite.Value.Elem" 0) ReflectliteValue.elem #[.agg #[.pointer (some ⟨5, 49, none⟩), .pointer (some a), .int .u64 150]]).run Tryd.prog W
      = .ok (.agg #[.pointer (some ⟨5, 35, none⟩), .pointer (some p), .int .u64 406]) W := by
  change (Bind.bind (ReflectliteValue.parts (.agg #[.pointer (some ⟨5, 49, none⟩), .pointer (some a), .int .u64 150])) _ : Sem Value).run Tryd.prog W = _
  simp only [Sem.run_bind, parts49, Result.andThen]
  simp [ReflectliteValue.elem, loadVar, isAgg, underlying, Tryd.underlying49, ha, Result.andThen, elemOf49, mk35]
theorem parts35a (a : Addr) (w : World) : (ReflectliteValue.parts (.agg #[.pointer (some ⟨5, 35, none⟩), .pointer (some a), .int .u64 406])).run Tryd.prog w = .ok (some (35, a, 406)) w := by kernel_rfl
theorem parts35 (a : Addr) (w : World) : (ReflectliteValue.parts (.agg #[.pointer (some ⟨5, 35, none⟩), .pointer (some a), .int .u64 150])).run Tryd.prog w = .ok (some (35, a, 150)) w := by kernel_rfl
theorem direct35 (w : World) : (Rtype.directlyAssignable 35 35).run Tryd.prog w = .ok true w := by kernel_rfl
theorem set35 (ta b e : Addr) (old : Value) (W : World) (hb : W.cell? b = some (.pointer (some e))) (ht : W.cell? ta = some old) (hf : W.frozen? ta = false) :
    (ReflectliteValue.set #[.agg #[.pointer (some ⟨5, 35, none⟩), .pointer (some ta), .int .u64 406], .agg #[.pointer (some ⟨5, 35, none⟩), .pointer (some b), .int .u64 150]]).run Tryd.prog W
      = .ok (.tuple #[]) (W.setCell ta (.pointer (some e))) := by
  change (Bind.bind (ReflectliteValue.parts (.agg #[.pointer (some ⟨5, 35, none⟩), .pointer (some ta), .int .u64 406])) _ : Sem Value).run Tryd.prog W = _
  simp only [Sem.run_bind, parts35a, Result.andThen, Array.getLit, List.getElem_toArray, List.getElem_cons_succ, List.getElem_cons_zero, parts35]
  simp [ReflectliteValue.flagAddr, loadVar, isAgg, underlying, Tryd.underlying35, hb, Result.andThen, direct35, storeVar, Value.cells, storeCells, Addr.add]
  rw [run_store Tryd.prog W ta _ _ (by rfl)]
  simp [ht, hf]
end Go.Proofs.Qxb6604726aDoor
