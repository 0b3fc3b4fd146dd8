/-
  OURS, after the guide's worked example of errors.As: the hits and the misses at this program's types.
-/
import Derived.Test.Qxb6605959aDoorNo
import Derived.Below
namespace Go.Proofs.Qxb6605959aDoor
open Go Go.RowKit Go.Extern.Stop Go.Stop Go.Extern
set_option linter.unusedVariables false

set_option maxHeartbeats 4000000 in
theorem as_miss43_34 (e t : Addr) (w : World) (hg : w.cell? ⟨0, 0, none⟩ = some (.iface 59 (.agg #[.pointer (some ⟨1, 38, none⟩)]))) :
    Calls Tryd.prog 11 #[.iface 43 (.pointer (some e)), .iface 42 (.pointer (some t))] w fun ev w' => ev = .returned (.bool false) ∧ w' = ((w.alloc (.cells #[.pointer (some t)] 42)).alloc (.cells #[.pointer (some ⟨1, 42, none⟩), .pointer (some ⟨w.heap.size, 0, none⟩), .int .u64 150] 49)).alloc (.cells #[.pointer (some ⟨1, 42, none⟩), .pointer (some ⟨w.heap.size, 0, none⟩), .int .u64 150] 49) := by
  have h12 := @run_callFunc_extern Tryd.prog 12 _ (fun args => ReflectliteValue.unpack (args.getD 0 (.tuple #[]))) Tryd.func12 (by kernel_rfl) (by kernel_rfl) (by kernel_rfl) (by kernel_rfl)
  have h13 := @run_callFunc_extern Tryd.prog 13 _ (ReflectliteValue.methodAny (ReflectliteValue.valueError "reflectlite.Value.Type" 0) (fun t _ _ _ => ReflectliteType.toType t)) Tryd.func13 (by kernel_rfl) (by kernel_rfl) (by kernel_rfl) (by kernel_rfl)
  have h14 := @run_callFunc_extern Tryd.prog 14 _ (ReflectliteValue.method (ReflectliteValue.valueError "reflectlite.Value.IsNil" 0) ReflectliteValue.isNil) Tryd.func14 (by kernel_rfl) (by kernel_rfl) (by kernel_rfl) (by kernel_rfl)
  have h33 := @run_callFunc_extern Tryd.prog 33 _ (ReflectliteType.abiMethod fun t => do pure (.int .u8 (← Rtype.kind t))) Tryd.func33 (by kernel_rfl) (by kernel_rfl) (by kernel_rfl) (by kernel_rfl)
  have h45 := @run_callFunc_extern Tryd.prog 45 _ (ReflectliteType.method ReflectliteType.elem) Tryd.func45 (by kernel_rfl) (by kernel_rfl) (by kernel_rfl) (by kernel_rfl)
  have h46 := @run_callFunc_extern Tryd.prog 46 _ (ReflectliteType.relation "Implements" ReflectliteType.implements_) Tryd.func46 (by kernel_rfl) (by kernel_rfl) (by kernel_rfl) (by kernel_rfl)
  have h16 := @run_callFunc_extern Tryd.prog 16 _ ReflectliteType.typeOf Tryd.func16 (by kernel_rfl) (by kernel_rfl) (by kernel_rfl) (by kernel_rfl)
  have h43 := @run_callFunc_extern Tryd.prog 43 _ (ReflectliteType.relation "AssignableTo" ReflectliteType.assignableTo) Tryd.func43 (by kernel_rfl) (by kernel_rfl) (by kernel_rfl) (by kernel_rfl)
  have mK := Tryd.methodKind
  have mE := Tryd.methodElem
  have mI := Tryd.methodImplements
  have mA := Tryd.methodAssignableTo
  have f6 := Tryd.valueOf42
  have f7 := Tryd.type42
  have kP := Tryd.kind42
  have kT := Tryd.kind34
  have eP := Tryd.elem42
  have iT := Tryd.implements34
  have n8 := Tryd.isNil42 ⟨w.heap.size, 0, none⟩ t ((w.alloc (.cells #[.pointer (some t)] 42)).alloc (.cells #[.pointer (some ⟨1, 42, none⟩), .pointer (some ⟨w.heap.size, 0, none⟩), .int .u64 150] 49)) (by simp)
  have hlt : 0 < w.heap.size := by
    rcases Nat.eq_zero_or_pos w.heap.size with h0 | h
    · simp [World.cell?, h0] at hg
    · exact h
  have hg2 : ((w.alloc (.cells #[.pointer (some t)] 42)).alloc (.cells #[.pointer (some ⟨1, 42, none⟩), .pointer (some ⟨w.heap.size, 0, none⟩), .int .u64 150] 49)).cell? ⟨0, 0, none⟩ = some (.iface 59 (.agg #[.pointer (some ⟨1, 38, none⟩)])) := by
    rw [World.cell?_alloc_lt _ _ ⟨0, 0, none⟩ (by simp), World.cell?_alloc_lt _ _ ⟨0, 0, none⟩ hlt]; exact hg
  have tO := Tryd.typeOf43
  have aT := Tryd.assignable43_34
  have n1 := Tryd.noAs43
  have n2 := Tryd.noUnwrap43
  have n3 := Tryd.noUnwraps43
  go_enter Tryd.func11, Tryd.ntmps11
  go_wp2
  refine wp_loop_rounds 1 ?_
  rw [rounds_succ]
  go_wp2
  go_ret
  exact ⟨rfl, rfl⟩
end Go.Proofs.Qxb6605959aDoor
