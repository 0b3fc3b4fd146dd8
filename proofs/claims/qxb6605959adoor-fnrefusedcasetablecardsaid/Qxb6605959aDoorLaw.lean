/-
  OURS. The law's walk: its count of bytes (some bool), and the law itself.
-/
import Derived.Test.Qxb6605959aDoorNew
namespace Go.Proofs.Qxb6605959aDoor
open Go Go.RowKit Go.Extern.Stop Go.Stop Go.Extern
set_option linter.unusedVariables false

theorem bytes_any (n m : Int) (x y z : ByteArray) (w : World) : Calls Tryd.prog 4 #[.int .u32 n, .string x, .string y, .int .i64 m, .string z] w fun e w' => (∃ q, e = .returned (.bool q)) ∧ w' = w := by
  go_enter Tryd.func4, Tryd.ntmps4
  go_wp2
  all_goals go_ret
  all_goals exact ⟨⟨_, rfl⟩, rfl⟩

set_option maxHeartbeats 1000000 in
theorem law_any (n m : Int) (x y z : ByteArray) (w : World) (hg : Et w) : Calls Tryd.prog 3 #[.int .u32 n, .string x, .string y, .int .i64 m, .string z] w (Ans w true) := by
  have b0 := Below.refl w.heap.size w
  go_enter Tryd.func3, Tryd.ntmps3
  go_wp2_with (first
    | (go_at_call 4; refine (bytes_any n m x y z _).mono ?_; rintro e w0 ⟨⟨q, rfl⟩, rfl⟩; cases q)
    | (go_at_call 5; refine (door_state n x y _ hg).mono ?_; rintro e w1 ⟨rfl, b1⟩; have g1 := hg.below b1)
    | (go_at_call 6; refine (door_limit m _ g1).mono ?_; rintro e w2 ⟨rfl, b2⟩; have g2 := g1.below b2)
    | (go_at_call 7; refine (door_nil _).mono ?_; rintro e w3 ⟨rfl, b3⟩; have g3 := g2.below b3)
    | (go_at_call 8; refine (door_new z _ g3).mono ?_; rintro e w4 ⟨rfl, b4⟩))
  all_goals go_ret
  all_goals first
    | exact ⟨rfl, b0⟩
    | exact ⟨rfl, b1.trans ((b2.mono b1.size).trans ((b3.mono (Nat.le_trans b1.size b2.size)).trans (b4.mono (Nat.le_trans b1.size (Nat.le_trans b2.size b3.size)))))⟩
end Go.Proofs.Qxb6605959aDoor
