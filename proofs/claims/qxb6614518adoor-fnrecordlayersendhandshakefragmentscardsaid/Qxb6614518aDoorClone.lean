/-
  OURS. zzEq (f11; where the two are alike), zzCloneBytes (f15).
-/
import Derived.Test.Qxb6614518aDoorDoors
import Derived.OpenShut
namespace Go.Proofs.Qxb6614518aDoor
open Go Go.RowKit
set_option linter.unusedVariables false

theorem src_at {w : World} {so : Option Addr} {m c : Nat} {ys : List Int} (h : Src w so m c ys) (hm : 0 < m) : ∃ b o, so = some ⟨b, o, none⟩ ∧ ∀ j, j < m → w.cell? ⟨b, o + j, none⟩ = some (.int .u8 (ys.getD j 0)) := by
  cases so with
  | none => have := (h.none rfl).1; omega
  | some a =>
    have hl := h.len
    have hc : ∀ i, i < ys.length → w.cell? (a.add i) = some (.int .u8 (ys.getD i 0)) := fun i hi => h.cells a rfl i _ (by rw [List.getD_eq_getElem?_getD, List.getElem?_eq_getElem hi]; rfl)
    obtain ⟨b, o, rfl, hc'⟩ := ints_at hc (by omega)
    exact ⟨b, o, rfl, fun j hj => hc' j (by omega)⟩

set_option maxRecDepth 100000 in
set_option maxHeartbeats 1000000 in
theorem eq_any {w : World} {so so' : Option Addr} {m c c' : Nat} {xs : List Int} (h : Src w so m c xs) (h' : Src w so' m c' xs) (hm : m ≤ 140737488355328) :
    Calls Tryd.prog 11 #[.slice so m c, .slice so' m c'] w fun e w' => e = .returned (.bool true) ∧ ∃ q, w' = w.drewN q := by
  by_cases h0 : m = 0
  · subst h0
    go_enter Tryd.func11, Tryd.ntmps11
    go_wp2_with fail
    refine wp_loop_rounds 1 ?_
    rw [rounds_succ]
    go_wp2
    go_ret
    exact ⟨rfl, 0, rfl⟩
  · obtain ⟨b, o, rfl, hc⟩ := src_at h (by omega)
    obtain ⟨b', o', rfl, hc'⟩ := src_at h' (by omega)
    have hl := hide h.len
    have H := hide (And.intro hc hc')
    clear hc hc' h h'
    go_enter Tryd.func11, Tryd.ntmps11
    go_wp2_with fail
    go_loopw [5] (fun i wr => ∃ (k q : Nat), k ≤ m ∧ i = .int .i64 k ∧ wr = w.drewN q) (fun i _ => m - (intOf i).toNat)
    case atStart => exact ⟨0, 0, Nat.zero_le _, rfl, rfl⟩
    case round =>
      obtain ⟨k, q, hk, rfl, rfl⟩ := hrel
      by_cases hlt : k < m
      · have e1 := H.out.1 k hlt
        have e2 := H.out.2 k hlt
        generalize xs.getD k 0 = x at e1 e2
        go_wp2_with fail
        go_quiet (fail)
        go_wp2
        go_roundw
        case rel => exact ⟨k + 1, _, by omega, by go_num, rfl⟩
        case measure => simp [intOf]; omega
      · go_wp2
        go_ret
        exact ⟨rfl, _, rfl⟩

/-- What zzCloneBytes has filled after k rounds. -/
def filled (ys : List Int) (m k : Nat) : List Value := (ys.take k).map (Value.int .u8) ++ List.replicate (m - k) (Value.int .u8 0)

theorem filled_set {ys : List Int} {m k : Nat} (hl : ys.length = m) (hk : k < m) : (filled ys m k).set k (.int .u8 (ys.getD k 0)) = filled ys m (k + 1) := by
  apply List.ext_getElem?
  intro j
  have hlen : (filled ys m k).length = m := by simp [filled]; omega
  by_cases hj : j = k
  · subst hj
    rw [List.getElem?_set_self (by omega)]
    simp only [filled]
    rw [List.getElem?_append_left (by simp; omega), List.getElem?_map, List.getElem?_take, if_pos (by omega), List.getElem?_eq_getElem (by omega)]
    simp [List.getD_eq_getElem?_getD, hl, hk]
  · rw [List.getElem?_set_ne (by omega)]
    simp only [filled]
    by_cases hj2 : j < k
    · rw [List.getElem?_append_left (by simp; omega), List.getElem?_append_left (by simp; omega), List.getElem?_map, List.getElem?_map, List.getElem?_take, List.getElem?_take, if_pos hj2, if_pos (by omega)]
    · rw [List.getElem?_append_right (by simp; omega), List.getElem?_append_right (by simp; omega), List.getElem?_replicate, List.getElem?_replicate]
      simp only [List.length_map, List.length_take, hl]
      by_cases hj3 : j < m
      · rw [if_pos (by omega), if_pos (by omega)]
      · rw [if_neg (by omega), if_neg (by omega)]

theorem filled_all {ys : List Int} {m : Nat} (hl : ys.length = m) : filled ys m m = ys.map (Value.int .u8) := by simp [filled, List.take_of_length_le (Nat.le_of_eq hl)]

set_option maxRecDepth 100000 in
set_option maxHeartbeats 1000000 in
theorem clone_any {w : World} {so : Option Addr} {m c : Nat} {ys : List Int} (h : Src w so m c ys) (hm : m ≤ 140737488355328) :
    Calls Tryd.prog 15 #[.slice so m c] w fun e w' => ∃ v', e = .returned v' ∧ Ow w' w.heap.size v' ys ∧ Kp (fun _ => False) w w' := by
  have hen := fun (w : World) (a : Option Addr) (n c n' c' : Nat) => Lib.run_eql_slice_nil (P := Tryd.prog) w 26 5 a n c n' c' Tryd.underlying26
  obtain ⟨i0, hi, hz0, hz1, hz2⟩ := info_parts Tryd.info5
  cases so with
  | none =>
    obtain ⟨rfl, rfl⟩ := h.none rfl
    obtain rfl : ys = [] := List.eq_nil_of_length_eq_zero h.len
    clear h
    go_enter Tryd.func15, Tryd.ntmps15
    go_wp2
    go_ret
    exact ⟨_, rfl, World.ownsRow_nil _ _ _ _, Kp.refl _ _⟩
  | some a =>
    have hl := hide h.len
    have hc : 0 < m → ∃ b o, a = ⟨b, o, none⟩ ∧ ∀ j, j < m → w.cell? ⟨b, o + j, none⟩ = some (.int .u8 (ys.getD j 0)) := fun h0 => by
      obtain ⟨b, o, e, r⟩ := src_at h h0
      exact ⟨b, o, Option.some.inj e, r⟩
    have HC := hide hc
    clear hc h
    go_enter Tryd.func15, Tryd.ntmps15
    go_wp2_with (at_make; refine wpList_make_full _ rfl _ _ 26 rfl w.heap.size 5 i0 (.int .u8 0) 1 Tryd.underlying26 hi hz0 hz1 .i64 .i64 _ _ m rfl rfl (by simp) (by simp) (by rw [hz2]; omega) (by unfold maxLen; omega) (Nat.le_refl _) ?_)
    intro w1 h1 h2
    have I0 := hide (show w1.ownsRow w.heap.size 5 1 (.slice (some ⟨w.heap.size, 0, none⟩) m m) m (filled ys m 0) ∧ Kp (fun _ => False) w w1 from ⟨by simpa [filled, toList_madeCells_one, Value.cells] using h1, (Kp.refl _ w).grown h2 (fun k hk => by cases hk)⟩)
    clear h1 h2
    go_wp2_with fail
    go_loopw [4] (fun i wr => ∃ (k : Nat), k ≤ m ∧ i = .int .i64 k ∧ Hid (wr.ownsRow w.heap.size 5 1 (.slice (some ⟨w.heap.size, 0, none⟩) m m) m (filled ys m k) ∧ Kp (fun _ => False) w wr)) (fun i _ => m - (intOf i).toNat)
    case atStart => exact ⟨0, Nat.zero_le _, rfl, I0⟩
    case round =>
      obtain ⟨k, hk, rfl, hI⟩ := hrel
      by_cases hlt : k < m
      · obtain ⟨b, o, rfl, hcc⟩ := HC.out (by omega)
        have hcc' := hide hcc
        have e1 : wr.cell? ⟨b, o + k, none⟩ = some (.int .u8 (ys.getD k 0)) := by rw [hI.out.2.cell (p := ⟨b, o + k, none⟩) (by exact World.block_lt_of_cell? w _ (hcc k hlt)) (fun h => h)]; exact hcc k hlt
        clear hcc
        have hfl : (filled ys m k).length = m := by simp [filled, unhide hl]; omega
        have e2 : ∃ v0, wr.cell? ⟨w.heap.size, k, none⟩ = some v0 := ⟨(filled ys m k)[k]'(by omega), by rw [hI.out.1.cellAt k (by omega)]; exact List.getElem?_eq_getElem (by omega)⟩
        clear hfl
        obtain ⟨v0, e2⟩ := e2
        have e3 : wr.frozen? ⟨w.heap.size, k, none⟩ = false := hI.out.1.frozenAt k
        have I1 := hide (show (wr.setCell ⟨w.heap.size, k, none⟩ (.int .u8 (ys.getD k 0))).ownsRow w.heap.size 5 1 (.slice (some ⟨w.heap.size, 0, none⟩) m m) m (filled ys m (k + 1)) ∧ Kp (fun _ => False) w (wr.setCell ⟨w.heap.size, k, none⟩ (.int .u8 (ys.getD k 0))) from
          ⟨by rw [← filled_set (unhide hl) hlt]; exact (hI.out.1.stored k _).1, hI.out.2.setCell (p := ⟨w.heap.size, k, none⟩) (.inr (Nat.le_refl _)) _⟩)
        generalize ys.getD k 0 = x at e1 I1
        go_wp2
        go_roundw
        case rel => exact ⟨k + 1, by omega, by go_num, I1⟩
        case measure => simp [intOf]; omega
      · obtain rfl : k = m := by omega
        have F := hide (show Ow wr w.heap.size (.slice (some ⟨w.heap.size, 0, none⟩) k k) ys ∧ Kp (fun _ => False) w wr from ⟨by have := hI.out.1; rw [filled_all (unhide hl)] at this; unfold Ow; rw [unhide hl]; exact this, hI.out.2⟩)
        go_wp2
        go_ret
        exact ⟨_, rfl, F.out⟩
end Go.Proofs.Qxb6614518aDoor
