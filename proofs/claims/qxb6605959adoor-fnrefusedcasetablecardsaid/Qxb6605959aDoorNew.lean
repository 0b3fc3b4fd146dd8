/-
  OURS. The small functions of the road: errors.New, the three ways of 'refused', the four doors, the law's count of bytes.
-/
import Derived.Test.Qxb6605959aDoorHt29
import Derived.Test.Qxb6605959aDoorHt34
import Derived.Test.Qxb6605959aDoorMs34
import Derived.Test.Qxb6605959aDoorMs43
import Derived.Test.Qxb6605959aDoorMs44
namespace Go.Proofs.Qxb6605959aDoor
open Go Go.RowKit Go.Extern.Stop Go.Stop Go.Extern
set_option linter.unusedVariables false

/-- what 'errors.errorType' holds -/
def Et (w : World) : Prop := w.cell? ⟨0, 0, none⟩ = some (.iface 59 (.agg #[.pointer (some ⟨1, 38, none⟩)]))
theorem Et.pos {w : World} (h : Et w) : 0 < w.heap.size := by
  rcases Nat.eq_zero_or_pos w.heap.size with h0 | h1
  · simp [Et, World.cell?, h0] at h
  · exact h1
theorem Et.below {w w' : World} (h : Et w) (b : Below w.heap.size w w') : Et w' := (b.cell (p := ⟨0, 0, none⟩) h.pos).trans h

/-- what each of these calls leaves: the answer, and old memory as it was -/
def Ans (w : World) (q : Bool) : Ending → World → Prop := fun e w' => e = .returned (.bool q) ∧ Below w.heap.size w w'

/-- the two variables of 'refused' -/
def two (w : World) : World := (w.alloc (.cells #[.pointer none] 29)).alloc (.cells #[.pointer none] 34)
theorem two_below (w : World) : Below w.heap.size w (two w) := ((Below.refl _ w).alloc (Nat.le_refl _) _).alloc (by simp) _

theorem new_any (xs : ByteArray) (w : World) : Calls Tryd.prog 10 #[.string xs] w fun e w' => e = .returned (.iface 43 (.pointer (some ⟨w.heap.size, 0, none⟩))) ∧ w' = w.alloc (.cells #[.string xs] 45) := by
  go_enter Tryd.func10, Tryd.ntmps10
  go_wp2
  go_ret
  exact ⟨rfl, rfl⟩

theorem hit29 (e t : Addr) (old : Value) (w : World) (hg : Et w) (ht : w.cell? t = some old) (hf : w.frozen? t = false) (B : Nat) (hB : B ≤ t.block) (hw : B ≤ w.heap.size) :
    Calls Tryd.prog 11 #[.iface 29 (.pointer (some e)), .iface 41 (.pointer (some t))] w fun ev w' => ev = .returned (.bool true) ∧ Below B w w' := by
  refine (as_hit29 e t old w hg ht hf).mono ?_
  rintro ev w' ⟨rfl, rfl⟩
  refine ⟨rfl, Below.setCell ?_ hB _⟩
  refine Below.alloc ?_ (by simp <;> omega) _
  refine Below.alloc ?_ (by simp <;> omega) _
  refine Below.alloc ?_ (by simp <;> omega) _
  exact Below.alloc (Below.refl _ w) hw _
theorem hit34 (e t : Addr) (old : Value) (w : World) (hg : Et w) (ht : w.cell? t = some old) (hf : w.frozen? t = false) (B : Nat) (hB : B ≤ t.block) (hw : B ≤ w.heap.size) :
    Calls Tryd.prog 11 #[.iface 34 (.pointer (some e)), .iface 42 (.pointer (some t))] w fun ev w' => ev = .returned (.bool true) ∧ Below B w w' := by
  refine (as_hit34 e t old w hg ht hf).mono ?_
  rintro ev w' ⟨rfl, rfl⟩
  refine ⟨rfl, Below.setCell ?_ hB _⟩
  refine Below.alloc ?_ (by simp <;> omega) _
  refine Below.alloc ?_ (by simp <;> omega) _
  refine Below.alloc ?_ (by simp <;> omega) _
  exact Below.alloc (Below.refl _ w) hw _
theorem miss34_29 (e t : Addr) (w : World) (hg : Et w) :
    Calls Tryd.prog 11 #[.iface 34 (.pointer (some e)), .iface 41 (.pointer (some t))] w (Ans w false) := by
  refine (as_miss34_29 e t w hg).mono ?_
  rintro ev w' ⟨rfl, rfl⟩
  refine ⟨rfl, ?_⟩
  refine Below.alloc ?_ (by simp <;> omega) _
  refine Below.alloc ?_ (by simp <;> omega) _
  exact Below.alloc (Below.refl _ w) (Nat.le_refl _) _
theorem miss43_29 (e t : Addr) (w : World) (hg : Et w) :
    Calls Tryd.prog 11 #[.iface 43 (.pointer (some e)), .iface 41 (.pointer (some t))] w (Ans w false) := by
  refine (as_miss43_29 e t w hg).mono ?_
  rintro ev w' ⟨rfl, rfl⟩
  refine ⟨rfl, ?_⟩
  refine Below.alloc ?_ (by simp <;> omega) _
  refine Below.alloc ?_ (by simp <;> omega) _
  exact Below.alloc (Below.refl _ w) (Nat.le_refl _) _
theorem miss43_34 (e t : Addr) (w : World) (hg : Et w) :
    Calls Tryd.prog 11 #[.iface 43 (.pointer (some e)), .iface 42 (.pointer (some t))] w (Ans w false) := by
  refine (as_miss43_34 e t w hg).mono ?_
  rintro ev w' ⟨rfl, rfl⟩
  refine ⟨rfl, ?_⟩
  refine Below.alloc ?_ (by simp <;> omega) _
  refine Below.alloc ?_ (by simp <;> omega) _
  exact Below.alloc (Below.refl _ w) (Nat.le_refl _) _

theorem refused_nil (w : World) : Calls Tryd.prog 9 #[.nilIface] w (Ans w false) := by
  go_enter Tryd.func9, Tryd.ntmps9
  go_wp2_with (go_at_call 11; refine (as_nil _ _).mono ?_; rintro e w' ⟨rfl, rfl⟩)
  go_ret
  exact ⟨rfl, two_below w⟩

/-- the cells of the two variables, and 'errors.errorType', in the world that holds them new -/
structure Two (w w2 : World) : Prop where
  et : Et w2
  c1 : w2.cell? ⟨w.heap.size, 0, none⟩ = some (.pointer none)
  f1 : w2.frozen? ⟨w.heap.size, 0, none⟩ = false
  c2 : w2.cell? ⟨w.heap.size + 1, 0, none⟩ = some (.pointer none)
  f2 : w2.frozen? ⟨w.heap.size + 1, 0, none⟩ = false
  sz : w.heap.size + 2 ≤ w2.heap.size
  bl : Below w.heap.size w w2
theorem two_two {w : World} (hg : Et w) : Two w (two w) where
  et := hg.below (two_below w)
  c1 := by unfold two; rw [World.cell?_alloc_lt _ _ ⟨w.heap.size, 0, none⟩ (by simp)]; simp
  f1 := by unfold two; rw [World.frozen?_alloc_old _ _ ⟨w.heap.size, 0, none⟩ (by simp)]; simp
  c2 := by unfold two; simp
  f2 := by unfold two; simp
  sz := by simp [two]
  bl := two_below w
theorem Two.on {w w2 w3 : World} (h : Two w w2) (b : Below w2.heap.size w2 w3) : Two w w3 where
  et := h.et.below b
  c1 := (b.cell (p := ⟨w.heap.size, 0, none⟩) (by have := h.sz; show w.heap.size < _; omega)).trans h.c1
  f1 := (b.frozen (p := ⟨w.heap.size, 0, none⟩) (by have := h.sz; show w.heap.size < _; omega)).trans h.f1
  c2 := (b.cell (p := ⟨w.heap.size + 1, 0, none⟩) (by have := h.sz; show w.heap.size + 1 < _; omega)).trans h.c2
  f2 := (b.frozen (p := ⟨w.heap.size + 1, 0, none⟩) (by have := h.sz; show w.heap.size + 1 < _; omega)).trans h.f2
  sz := Nat.le_trans h.sz b.size
  bl := h.bl.trans (b.mono (by have := h.sz; omega))

theorem refused_state (e : Addr) (w : World) (hg : Et w) : Calls Tryd.prog 9 #[.iface 29 (.pointer (some e))] w (Ans w true) := by
  have T := two_two hg
  unfold two at T
  go_enter Tryd.func9, Tryd.ntmps9
  go_wp2_with (go_at_call 11; refine (hit29 e ⟨w.heap.size, 0, none⟩ (.pointer none) _ T.et T.c1 T.f1 w.heap.size (Nat.le_refl _) (by have := T.sz; omega)).mono ?_; rintro e w3 ⟨rfl, b3⟩)
  go_ret
  exact ⟨rfl, T.bl.trans b3⟩

theorem refused_limit (e : Addr) (w : World) (hg : Et w) : Calls Tryd.prog 9 #[.iface 34 (.pointer (some e))] w (Ans w true) := by
  have T := two_two hg
  unfold two at T
  go_enter Tryd.func9, Tryd.ntmps9
  go_wp2_with (first | (go_at_call 11; refine (hit34 e ⟨w.heap.size + 1, 0, none⟩ (.pointer none) _ T3.et T3.c2 T3.f2 w.heap.size (Nat.le_succ _) (by have := T3.sz; omega)).mono ?_; rintro e w4 ⟨rfl, b4⟩) | (go_at_call 11; refine (miss34_29 e ⟨w.heap.size, 0, none⟩ _ T.et).mono ?_; rintro e w3 ⟨rfl, b3⟩; have T3 := T.on b3))
  go_ret
  exact ⟨rfl, T3.bl.trans b4⟩

theorem refused_new (e : Addr) (w : World) (hg : Et w) : Calls Tryd.prog 9 #[.iface 43 (.pointer (some e))] w (Ans w false) := by
  have T := two_two hg
  unfold two at T
  go_enter Tryd.func9, Tryd.ntmps9
  go_wp2_with (first | (go_at_call 11; refine (miss43_34 e ⟨w.heap.size + 1, 0, none⟩ _ T3.et).mono ?_; rintro e w4 ⟨rfl, b4⟩; have T4 := T3.on b4) | (go_at_call 11; refine (miss43_29 e ⟨w.heap.size, 0, none⟩ _ T.et).mono ?_; rintro e w3 ⟨rfl, b3⟩; have T3 := T.on b3))
  go_ret
  exact ⟨rfl, T4.bl⟩

theorem door_state (n : Int) (x y : ByteArray) (w : World) (hg : Et w) : Calls Tryd.prog 5 #[.int .u32 n, .string x, .string y] w (Ans w true) := by
  have b1 : Below w.heap.size w (w.alloc (.cells #[.int .u32 n, .string x, .string y] 33)) := Below.alloc (Below.refl _ w) (Nat.le_refl _) _
  have e1 := hg.below b1
  go_enter Tryd.func5, Tryd.ntmps5
  go_wp2_with (go_at_call 9; refine (refused_state ⟨w.heap.size, 0, none⟩ _ e1).mono ?_; rintro e w3 ⟨rfl, b3⟩)
  go_ret
  exact ⟨rfl, b1.trans (b3.mono b1.size)⟩

theorem door_limit (n : Int) (w : World) (hg : Et w) : Calls Tryd.prog 6 #[.int .i64 n] w (Ans w true) := by
  have b1 : Below w.heap.size w (w.alloc (.cells #[.int .i64 n] 36)) := Below.alloc (Below.refl _ w) (Nat.le_refl _) _
  have e1 := hg.below b1
  go_enter Tryd.func6, Tryd.ntmps6
  go_wp2_with (go_at_call 9; refine (refused_limit ⟨w.heap.size, 0, none⟩ _ e1).mono ?_; rintro e w3 ⟨rfl, b3⟩)
  go_ret
  exact ⟨rfl, b1.trans (b3.mono b1.size)⟩

theorem door_nil (w : World) : Calls Tryd.prog 7 #[] w (Ans w false) := by
  go_enter Tryd.func7, Tryd.ntmps7
  go_wp2_with (go_at_call 9; refine (refused_nil _).mono ?_; rintro e w3 ⟨rfl, b3⟩)
  go_ret
  exact ⟨rfl, b3⟩

theorem door_new (x : ByteArray) (w : World) (hg : Et w) : Calls Tryd.prog 8 #[.string x] w (Ans w false) := by
  have b1 : Below w.heap.size w (w.alloc (.cells #[.string x] 45)) := Below.alloc (Below.refl _ w) (Nat.le_refl _) _
  have e1 := hg.below b1
  go_enter Tryd.func8, Tryd.ntmps8
  go_wp2_with (first | (go_at_call 10; refine (new_any x _).mono ?_; rintro e w2 ⟨rfl, rfl⟩) | (go_at_call 9; refine (refused_new ⟨w.heap.size, 0, none⟩ _ e1).mono ?_; rintro e w3 ⟨rfl, b3⟩))
  go_ret
  exact ⟨rfl, b1.trans (b3.mono b1.size)⟩
end Go.Proofs.Qxb6605959aDoor
