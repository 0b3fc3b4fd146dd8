/-
  OURS, after the guide's worked example of errors.As: the three type assertions that fail.
-/
import Derived.Test.Qxb6605959aDoorAs
import Derived.Below
namespace Go.Proofs.Qxb6605959aDoor
open Go Go.RowKit Go.Extern.Stop Go.Stop Go.Extern
set_option linter.unusedVariables false

theorem Tryd.noAs34 (v : Value) (xT : TypeId) (w : World) : (Instr.typeAssert (.iface 34 v) xT 64 true).run Tryd.prog w = .ok (.tuple #[.nilIface, .bool false]) w := run_typeAssert_lacksB Tryd.underlying64 (by kernel_rfl) (by kernel_rfl) v xT w
theorem Tryd.noUnwrap34 (v : Value) (xT : TypeId) (w : World) : (Instr.typeAssert (.iface 34 v) xT 67 true).run Tryd.prog w = .ok (.tuple #[.nilIface, .bool false]) w := run_typeAssert_lacksB Tryd.underlying67 (by kernel_rfl) (by kernel_rfl) v xT w
theorem Tryd.noUnwraps34 (v : Value) (xT : TypeId) (w : World) : (Instr.typeAssert (.iface 34 v) xT 69 true).run Tryd.prog w = .ok (.tuple #[.nilIface, .bool false]) w := run_typeAssert_lacksB Tryd.underlying69 (by kernel_rfl) (by kernel_rfl) v xT w
theorem Tryd.noAs43 (v : Value) (xT : TypeId) (w : World) : (Instr.typeAssert (.iface 43 v) xT 64 true).run Tryd.prog w = .ok (.tuple #[.nilIface, .bool false]) w := run_typeAssert_lacksB Tryd.underlying64 (by kernel_rfl) (by kernel_rfl) v xT w
theorem Tryd.noUnwrap43 (v : Value) (xT : TypeId) (w : World) : (Instr.typeAssert (.iface 43 v) xT 67 true).run Tryd.prog w = .ok (.tuple #[.nilIface, .bool false]) w := run_typeAssert_lacksB Tryd.underlying67 (by kernel_rfl) (by kernel_rfl) v xT w
theorem Tryd.noUnwraps43 (v : Value) (xT : TypeId) (w : World) : (Instr.typeAssert (.iface 43 v) xT 69 true).run Tryd.prog w = .ok (.tuple #[.nilIface, .bool false]) w := run_typeAssert_lacksB Tryd.underlying69 (by kernel_rfl) (by kernel_rfl) v xT w

end Go.Proofs.Qxb6605959aDoor
