/-
  OURS, after the guide's worked example of errors.As (its seventeen closed facts and three small laws, turned to this program's numbers; the misses are ours).
-/
import Derived.Test.Qxb6605959aDoorRows
import Derived.WalkKit
import Derived.LaidEql
import Derived.Stop.Asserts
import Derived.RowKitTokens
namespace Go.Proofs.Qxb6605959aDoor
open Go Go.RowKit Go.Extern.Stop Go.Stop Go.Extern
set_option linter.unusedVariables false

theorem as_nil (t : Value) (w : World) :
    Calls Tryd.prog 11 #[.nilIface, t] w fun e w' => e = .returned (.bool false) ∧ w' = w := by
  go_enter Tryd.func11, Tryd.ntmps11
  go_wp2
  go_ret
  exact ⟨rfl, rfl⟩

theorem rlm (z : Sem Value) (f : TypeId → Addr → Nat → Nat → Sem Value) (v : Value) :
    ReflectliteValue.method z f #[v] = (do match ← ReflectliteValue.parts v with | none => z | some (t, a, fl) => f t a fl (fl % 32)) := rfl
theorem Tryd.methodKind (h : Value) (w : World) : (Go.method 201 59 (.agg #[h]) "Kind").run Tryd.prog w = .ok (33, h) w := by kernel_rfl
theorem Tryd.methodElem (h : Value) (w : World) : (Go.method 201 59 (.agg #[h]) "Elem").run Tryd.prog w = .ok (45, .agg #[h]) w := by kernel_rfl
theorem Tryd.methodImplements (h : Value) (w : World) : (Go.method 201 59 (.agg #[h]) "Implements").run Tryd.prog w = .ok (46, .agg #[h]) w := by kernel_rfl
theorem Tryd.methodAssignableTo (h : Value) (w : World) : (Go.method 201 59 (.agg #[h]) "AssignableTo").run Tryd.prog w = .ok (43, .agg #[h]) w := by kernel_rfl

theorem Tryd.valueOf41 (t : Addr) (w : World) : (ReflectliteValue.unpack (.iface 41 (.pointer (some t)))).run Tryd.prog w
    = .ok (.agg #[.pointer (some ⟨1, 41, none⟩), .pointer (some ⟨w.heap.size, 0, none⟩), .int .u64 150]) (w.alloc (.cells #[.pointer (some t)] 41)) := by kernel_rfl
theorem Tryd.type41 (a : Addr) (w : World) : (ReflectliteValue.methodAny (ReflectliteValue.valueError "reflectlite.Value.Type" 0) (fun t _ _ _ => ReflectliteType.toType t) #[.agg #[.pointer (some ⟨1, 41, none⟩), .pointer (some a), .int .u64 150]]).run Tryd.prog w
    = .ok (.iface 59 (.agg #[.pointer (some ⟨1, 41, none⟩)])) w := by kernel_rfl
theorem Tryd.kind41 (w : World) : ((ReflectliteType.abiMethod fun t => (fun a : Nat => Value.int IntKind.u8 (a : Int)) <$> Rtype.kind t) #[.pointer (some ⟨1, 41, none⟩)]).run Tryd.prog w = .ok (.int .u8 22) w := by kernel_rfl
theorem Tryd.kind29 (w : World) : ((ReflectliteType.abiMethod fun t => (fun a : Nat => Value.int IntKind.u8 (a : Int)) <$> Rtype.kind t) #[.pointer (some ⟨1, 29, none⟩)]).run Tryd.prog w = .ok (.int .u8 22) w := by kernel_rfl
theorem Tryd.parts41 (a : Addr) (w : World) : (ReflectliteValue.parts (.agg #[.pointer (some ⟨1, 41, none⟩), .pointer (some a), .int .u64 150])).run Tryd.prog w = .ok (some (41, a, 150)) w := by kernel_rfl
theorem Tryd.isNil41 (a p : Addr) (W : World) (ha : W.cell? a = some (.pointer (some p))) :
    (ReflectliteValue.method (ReflectliteValue.valueError "reflectlite.Value.IsNil" 0) ReflectliteValue.isNil #[.agg #[.pointer (some ⟨1, 41, none⟩), .pointer (some a), .int .u64 150]]).run Tryd.prog W = .ok (.bool false) W := by
  rw [rlm]
  simp only [Sem.run_bind, Tryd.parts41, Result.andThen]
  simp [ReflectliteValue.isNil, loadVar, isAgg, underlying, Tryd.underlying41, ha, Result.andThen]
theorem Tryd.elem41 (w : World) : (ReflectliteType.method ReflectliteType.elem #[.agg #[.pointer (some ⟨1, 41, none⟩)]]).run Tryd.prog w = .ok (.iface 59 (.agg #[.pointer (some ⟨1, 29, none⟩)])) w := by kernel_rfl
theorem Tryd.implements29 (w : World) : (ReflectliteType.relation "Implements" ReflectliteType.implements_ #[.agg #[.pointer (some ⟨1, 29, none⟩)], .iface 59 (.agg #[.pointer (some ⟨1, 38, none⟩)])]).run Tryd.prog w = .ok (.bool true) w := by kernel_rfl
theorem Tryd.typeOf29 (v : Value) (w : World) : (ReflectliteType.typeOf #[.iface 29 v]).run Tryd.prog w = .ok (.iface 59 (.agg #[.pointer (some ⟨1, 29, none⟩)])) w := by kernel_rfl
theorem Tryd.assignable29 (w : World) : (ReflectliteType.relation "AssignableTo" ReflectliteType.assignableTo #[.agg #[.pointer (some ⟨1, 29, none⟩)], .iface 59 (.agg #[.pointer (some ⟨1, 29, none⟩)])]).run Tryd.prog w = .ok (.bool true) w := by kernel_rfl
theorem Tryd.assignable43_29 (w : World) : (ReflectliteType.relation "AssignableTo" ReflectliteType.assignableTo #[.agg #[.pointer (some ⟨1, 43, none⟩)], .iface 59 (.agg #[.pointer (some ⟨1, 29, none⟩)])]).run Tryd.prog w = .ok (.bool false) w := by kernel_rfl
theorem Tryd.valueOf29 (e : Addr) (w : World) : (ReflectliteValue.unpack (.iface 29 (.pointer (some e)))).run Tryd.prog w
    = .ok (.agg #[.pointer (some ⟨1, 29, none⟩), .pointer (some ⟨w.heap.size, 0, none⟩), .int .u64 150]) (w.alloc (.cells #[.pointer (some e)] 29)) := by kernel_rfl
theorem Tryd.elemOf41 (w : World) : (Rtype.elem? 41).run Tryd.prog w = .ok (some 29) w := by kernel_rfl
theorem Tryd.mk29 (p : Addr) (w : World) : (ReflectliteValue.mk 29 p ReflectliteValue.flagAddr).run Tryd.prog w = .ok (.agg #[.pointer (some ⟨1, 29, none⟩), .pointer (some p), .int .u64 406]) w := by kernel_rfl
theorem Tryd.elemV41 (a p : Addr) (W : World) (ha : W.cell? a = some (.pointer (some p))) :
    (ReflectliteValue.method (ReflectliteValue.valueError "reflectlite.Value.Elem" 0) ReflectliteValue.elem #[.agg #[.pointer (some ⟨1, 41, none⟩), .pointer (some a), .int .u64 150]]).run Tryd.prog W
      = .ok (.agg #[.pointer (some ⟨1, 29, none⟩), .pointer (some p), .int .u64 406]) W := by
  rw [rlm]
  simp only [Sem.run_bind, Tryd.parts41, Result.andThen]
  simp [ReflectliteValue.elem, loadVar, isAgg, underlying, Tryd.underlying41, ha, Result.andThen, Tryd.elemOf41, Tryd.mk29]
theorem Tryd.parts29a (a : Addr) (w : World) : (ReflectliteValue.parts (.agg #[.pointer (some ⟨1, 29, none⟩), .pointer (some a), .int .u64 406])).run Tryd.prog w = .ok (some (29, a, 406)) w := by kernel_rfl
theorem Tryd.parts29 (a : Addr) (w : World) : (ReflectliteValue.parts (.agg #[.pointer (some ⟨1, 29, none⟩), .pointer (some a), .int .u64 150])).run Tryd.prog w = .ok (some (29, a, 150)) w := by kernel_rfl
theorem Tryd.direct29 (w : World) : (Rtype.directlyAssignable 29 29).run Tryd.prog w = .ok true w := by kernel_rfl
theorem Tryd.sizeof29 (w : World) : (sizeOf 29).run Tryd.prog w = .ok 1 w := by kernel_rfl

theorem Tryd.valueOf42 (t : Addr) (w : World) : (ReflectliteValue.unpack (.iface 42 (.pointer (some t)))).run Tryd.prog w
    = .ok (.agg #[.pointer (some ⟨1, 42, none⟩), .pointer (some ⟨w.heap.size, 0, none⟩), .int .u64 150]) (w.alloc (.cells #[.pointer (some t)] 42)) := by kernel_rfl
theorem Tryd.type42 (a : Addr) (w : World) : (ReflectliteValue.methodAny (ReflectliteValue.valueError "reflectlite.Value.Type" 0) (fun t _ _ _ => ReflectliteType.toType t) #[.agg #[.pointer (some ⟨1, 42, none⟩), .pointer (some a), .int .u64 150]]).run Tryd.prog w
    = .ok (.iface 59 (.agg #[.pointer (some ⟨1, 42, none⟩)])) w := by kernel_rfl
theorem Tryd.kind42 (w : World) : ((ReflectliteType.abiMethod fun t => (fun a : Nat => Value.int IntKind.u8 (a : Int)) <$> Rtype.kind t) #[.pointer (some ⟨1, 42, none⟩)]).run Tryd.prog w = .ok (.int .u8 22) w := by kernel_rfl
theorem Tryd.kind34 (w : World) : ((ReflectliteType.abiMethod fun t => (fun a : Nat => Value.int IntKind.u8 (a : Int)) <$> Rtype.kind t) #[.pointer (some ⟨1, 34, none⟩)]).run Tryd.prog w = .ok (.int .u8 22) w := by kernel_rfl
theorem Tryd.parts42 (a : Addr) (w : World) : (ReflectliteValue.parts (.agg #[.pointer (some ⟨1, 42, none⟩), .pointer (some a), .int .u64 150])).run Tryd.prog w = .ok (some (42, a, 150)) w := by kernel_rfl
theorem Tryd.isNil42 (a p : Addr) (W : World) (ha : W.cell? a = some (.pointer (some p))) :
    (ReflectliteValue.method (ReflectliteValue.valueError "reflectlite.Value.IsNil" 0) ReflectliteValue.isNil #[.agg #[.pointer (some ⟨1, 42, none⟩), .pointer (some a), .int .u64 150]]).run Tryd.prog W = .ok (.bool false) W := by
  rw [rlm]
  simp only [Sem.run_bind, Tryd.parts42, Result.andThen]
  simp [ReflectliteValue.isNil, loadVar, isAgg, underlying, Tryd.underlying42, ha, Result.andThen]
theorem Tryd.elem42 (w : World) : (ReflectliteType.method ReflectliteType.elem #[.agg #[.pointer (some ⟨1, 42, none⟩)]]).run Tryd.prog w = .ok (.iface 59 (.agg #[.pointer (some ⟨1, 34, none⟩)])) w := by kernel_rfl
theorem Tryd.implements34 (w : World) : (ReflectliteType.relation "Implements" ReflectliteType.implements_ #[.agg #[.pointer (some ⟨1, 34, none⟩)], .iface 59 (.agg #[.pointer (some ⟨1, 38, none⟩)])]).run Tryd.prog w = .ok (.bool true) w := by kernel_rfl
theorem Tryd.typeOf34 (v : Value) (w : World) : (ReflectliteType.typeOf #[.iface 34 v]).run Tryd.prog w = .ok (.iface 59 (.agg #[.pointer (some ⟨1, 34, none⟩)])) w := by kernel_rfl
theorem Tryd.assignable34 (w : World) : (ReflectliteType.relation "AssignableTo" ReflectliteType.assignableTo #[.agg #[.pointer (some ⟨1, 34, none⟩)], .iface 59 (.agg #[.pointer (some ⟨1, 34, none⟩)])]).run Tryd.prog w = .ok (.bool true) w := by kernel_rfl
theorem Tryd.assignable43_34 (w : World) : (ReflectliteType.relation "AssignableTo" ReflectliteType.assignableTo #[.agg #[.pointer (some ⟨1, 43, none⟩)], .iface 59 (.agg #[.pointer (some ⟨1, 34, none⟩)])]).run Tryd.prog w = .ok (.bool false) w := by kernel_rfl
theorem Tryd.valueOf34 (e : Addr) (w : World) : (ReflectliteValue.unpack (.iface 34 (.pointer (some e)))).run Tryd.prog w
    = .ok (.agg #[.pointer (some ⟨1, 34, none⟩), .pointer (some ⟨w.heap.size, 0, none⟩), .int .u64 150]) (w.alloc (.cells #[.pointer (some e)] 34)) := by kernel_rfl
theorem Tryd.elemOf42 (w : World) : (Rtype.elem? 42).run Tryd.prog w = .ok (some 34) w := by kernel_rfl
theorem Tryd.mk34 (p : Addr) (w : World) : (ReflectliteValue.mk 34 p ReflectliteValue.flagAddr).run Tryd.prog w = .ok (.agg #[.pointer (some ⟨1, 34, none⟩), .pointer (some p), .int .u64 406]) w := by kernel_rfl
theorem Tryd.elemV42 (a p : Addr) (W : World) (ha : W.cell? a = some (.pointer (some p))) :
    (ReflectliteValue.method (ReflectliteValue.valueError "reflectlite.Value.Elem" 0) ReflectliteValue.elem #[.agg #[.pointer (some ⟨1, 42, none⟩), .pointer (some a), .int .u64 150]]).run Tryd.prog W
      = .ok (.agg #[.pointer (some ⟨1, 34, none⟩), .pointer (some p), .int .u64 406]) W := by
  rw [rlm]
  simp only [Sem.run_bind, Tryd.parts42, Result.andThen]
  simp [ReflectliteValue.elem, loadVar, isAgg, underlying, Tryd.underlying42, ha, Result.andThen, Tryd.elemOf42, Tryd.mk34]
theorem Tryd.parts34a (a : Addr) (w : World) : (ReflectliteValue.parts (.agg #[.pointer (some ⟨1, 34, none⟩), .pointer (some a), .int .u64 406])).run Tryd.prog w = .ok (some (34, a, 406)) w := by kernel_rfl
theorem Tryd.parts34 (a : Addr) (w : World) : (ReflectliteValue.parts (.agg #[.pointer (some ⟨1, 34, none⟩), .pointer (some a), .int .u64 150])).run Tryd.prog w = .ok (some (34, a, 150)) w := by kernel_rfl
theorem Tryd.direct34 (w : World) : (Rtype.directlyAssignable 34 34).run Tryd.prog w = .ok true w := by kernel_rfl
theorem Tryd.sizeof34 (w : World) : (sizeOf 34).run Tryd.prog w = .ok 1 w := by kernel_rfl

theorem Tryd.typeOf43 (v : Value) (w : World) : (ReflectliteType.typeOf #[.iface 43 v]).run Tryd.prog w = .ok (.iface 59 (.agg #[.pointer (some ⟨1, 43, none⟩)])) w := by kernel_rfl
theorem Tryd.assignable34_29 (w : World) : (ReflectliteType.relation "AssignableTo" ReflectliteType.assignableTo #[.agg #[.pointer (some ⟨1, 34, none⟩)], .iface 59 (.agg #[.pointer (some ⟨1, 29, none⟩)])]).run Tryd.prog w = .ok (.bool false) w := by kernel_rfl
end Go.Proofs.Qxb6605959aDoor
