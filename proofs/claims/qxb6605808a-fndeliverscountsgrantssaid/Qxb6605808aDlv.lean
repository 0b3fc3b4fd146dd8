/-
  OURS. ZZdelivers (f6) and delivers (f9) by their contracts, in the three cases of the text; b2i (f7).
-/
import Derived.Test.Qxb6605808aRows
import Derived.WalkKit
import Derived.ProofKit
import Derived.OpenShut
import Derived.ShutString
namespace Go.Proofs.Qxb6605808a
open Go.ChangeShapes Go.WideShapes Go.ChangeAt Go.RowKit
set_option linter.unusedVariables false

/-- A router with these three fields, all others zero. -/
def rcells (f : ByteArray) (p a : Bool) : Array Value := #[.string ByteArray.empty, .string ByteArray.empty, .string ByteArray.empty, .int .i64 0, .map none, .string ByteArray.empty, .slice none 0 0, .string ByteArray.empty, .slice none 0 0, .bool false, .bool false, .bool false, .bool false, .bool false, .bool false, .bool false, .pointer none, .pointer none, .bool false, .string ByteArray.empty, .pointer none, .string ByteArray.empty, .string ByteArray.empty, .string ByteArray.empty, .bool false, .bool false, .bool false, .string ByteArray.empty, .pointer none, .string ByteArray.empty, .slice none 0 0, .int .i64 0, .string ByteArray.empty, .string ByteArray.empty, .string f, .bool false, .bool false, .bool false, .bool false, .bool p, .bool a, .string ByteArray.empty, .string ByteArray.empty, .bool false, .bool false]

theorem bld (f : ByteArray) (p a : Bool) (w : World) : (Instr.build 43 #[(26, .string f), (31, .bool p), (32, .bool a)]).run Try.prog w = .ok (.agg (rcells f p a)) w := by kernel_rfl
theorem bxd (f : ByteArray) (p a : Bool) (w : World) : (Instr.box 43 (.agg (rcells f p a))).run Try.prog w = .ok (.pointer (some ⟨w.heap.size, 0, none⟩)) (w.alloc (.cells (rcells f p a) 43)) := by kernel_rfl

theorem wpList_build {P : Program} {w : World} {ops : Array Oper} {rest : List Oper} {o : Oper} {a : Act} {Q : Exit → Act → World → Prop} (hgd : o.guard = none) (t : TypeId) (parts : Array (Nat × Operand)) (ho : o.op = .build t parts) (vals : Array (Nat × Value)) (hv : (parts.map fun (i, x) => (i, a.eval x)) = vals)
    (v : Value) (hr : (Instr.build t vals).run P w = .ok v w) (h : wpList P ops Q rest (a.put o.dst v) w) : wpList P ops Q (o :: rest) a w := by
  refine wpList_plain hgd fun K hK => ?_
  unfold Oper.wp execOp
  simp only [ho, hv, Sem.run_bind, Sem.run_pure, Result.andThen_ok, hr]
  exact hK _ _ h

theorem wpList_box {P : Program} {w w' : World} {ops : Array Oper} {rest : List Oper} {o : Oper} {a : Act} {Q : Exit → Act → World → Prop} (hgd : o.guard = none) (t : TypeId) (x : Operand) (ho : o.op = .box t x) (u : Value) (hv : a.eval x = u)
    (v : Value) (hr : (Instr.box t u).run P w = .ok v w') (h : wpList P ops Q rest (a.put o.dst v) w') : wpList P ops Q (o :: rest) a w := by
  refine wpList_plain hgd fun K hK => ?_
  unfold Oper.wp execOp
  simp only [ho, hv, Sem.run_bind, Sem.run_pure, Result.andThen_ok, hr]
  exact hK _ _ h

set_option maxHeartbeats 400000 in
theorem del_empty (f : ByteArray) (b : Nat) (k : Int) (w : World) (h : w.cell? ⟨b, 34, none⟩ = some (.string f)) (hf : f.toList.isEmpty = true) :
    Calls Try.prog 9 #[.pointer (some ⟨b, 0, none⟩), .int .i64 k] w fun e w' => e = .returned (.bool true) ∧ w = w' := by
  go_enter Try.func9, Try.ntmps9
  go_wp2
  go_ret
  exact ⟨rfl, rfl⟩

set_option maxHeartbeats 400000 in
theorem del_pipe (f : ByteArray) (p : Bool) (b : Nat) (w : World) (h : w.cell? ⟨b, 34, none⟩ = some (.string f)) (hp : w.cell? ⟨b, 39, none⟩ = some (.bool p)) (hf : f.toList.isEmpty = false) :
    Calls Try.prog 9 #[.pointer (some ⟨b, 0, none⟩), .int .i64 1] w fun e w' => e = .returned (.bool p) ∧ w = w' := by
  go_enter Try.func9, Try.ntmps9
  go_wp2
  go_ret
  exact ⟨rfl, rfl⟩

set_option maxHeartbeats 400000 in
theorem del_file (f : ByteArray) (a : Bool) (b : Nat) (w : World) (h : w.cell? ⟨b, 34, none⟩ = some (.string f)) (ha : w.cell? ⟨b, 40, none⟩ = some (.bool a)) (hf : f.toList.isEmpty = false) :
    Calls Try.prog 9 #[.pointer (some ⟨b, 0, none⟩), .int .i64 2] w fun e w' => e = .returned (.bool a) ∧ w = w' := by
  go_enter Try.func9, Try.ntmps9
  go_wp2
  go_ret
  exact ⟨rfl, rfl⟩

theorem rc_at (f : ByteArray) (p a : Bool) (w : World) (j : Nat) : (w.alloc (.cells (rcells f p a) 43)).cell? ⟨w.heap.size, j, none⟩ = (rcells f p a)[j]? := cell_of_row _ w.heap.size j _ 43 (0, 0) (heap_alloc_new w _)

set_option maxHeartbeats 400000 in
theorem zz_empty (f : ByteArray) (p a : Bool) (k : Int) (w : World) (hf : f.toList.isEmpty = true) :
    Calls Try.prog 6 #[.string f, .bool p, .bool a, .int .i64 k] w fun e w' => e = .returned (.bool true) ∧ Grown w w' := by
  have g : Hid (Grown w (w.alloc (.cells (rcells f p a) 43))) := (Grown.refl w).alloc _ _
  go_enter Try.func6, Try.ntmps6
  go_wp2_with (first | (refine wpList_build rfl 43 _ rfl #[(26, .string f), (31, .bool p), (32, .bool a)] (by simp [Act.eval]) _ (bld f p a w) ?_) | (refine wpList_box rfl 43 _ rfl _ rfl _ (bxd f p a w) ?_))
  refine (del_empty f _ k _ (rc_at f p a w 34) hf).mono ?_
  rintro e w' ⟨rfl, rfl⟩
  go_wp2
  go_ret
  exact ⟨rfl, g.out⟩

set_option maxHeartbeats 400000 in
theorem zz_pipe (f : ByteArray) (p a : Bool) (w : World) (hf : f.toList.isEmpty = false) :
    Calls Try.prog 6 #[.string f, .bool p, .bool a, .int .i64 1] w fun e w' => e = .returned (.bool p) ∧ Grown w w' := by
  have g : Hid (Grown w (w.alloc (.cells (rcells f p a) 43))) := (Grown.refl w).alloc _ _
  go_enter Try.func6, Try.ntmps6
  go_wp2_with (first | (refine wpList_build rfl 43 _ rfl #[(26, .string f), (31, .bool p), (32, .bool a)] (by simp [Act.eval]) _ (bld f p a w) ?_) | (refine wpList_box rfl 43 _ rfl _ rfl _ (bxd f p a w) ?_))
  refine (del_pipe f p _ _ (rc_at f p a w 34) (rc_at f p a w 39) hf).mono ?_
  rintro e w' ⟨rfl, rfl⟩
  go_wp2
  go_ret
  exact ⟨rfl, g.out⟩

set_option maxHeartbeats 400000 in
theorem zz_file (f : ByteArray) (p a : Bool) (w : World) (hf : f.toList.isEmpty = false) :
    Calls Try.prog 6 #[.string f, .bool p, .bool a, .int .i64 2] w fun e w' => e = .returned (.bool a) ∧ Grown w w' := by
  have g : Hid (Grown w (w.alloc (.cells (rcells f p a) 43))) := (Grown.refl w).alloc _ _
  go_enter Try.func6, Try.ntmps6
  go_wp2_with (first | (refine wpList_build rfl 43 _ rfl #[(26, .string f), (31, .bool p), (32, .bool a)] (by simp [Act.eval]) _ (bld f p a w) ?_) | (refine wpList_box rfl 43 _ rfl _ rfl _ (bxd f p a w) ?_))
  refine (del_file f a _ _ (rc_at f p a w 34) (rc_at f p a w 40) hf).mono ?_
  rintro e w' ⟨rfl, rfl⟩
  go_wp2
  go_ret
  exact ⟨rfl, g.out⟩

end Go.Proofs.Qxb6605808a
