/-
  OURS. zzCopyRuns (f6), ZZopenDayAfter (f7).
-/
import Derived.Test.Qxb6605889aOda
import Derived.OwnWalk
import Derived.Deep.RegionHeldLaw
import Derived.Lib.SliceRun
import Derived.Laws.OwnMore
namespace Go.Proofs.Qxb6605889a
open Go Go.RowKit
set_option linter.unusedVariables false

/-- A row of our own, its first k pairs laid. -/
structure Laid (w wr : World) (g n : Nat) (xs : List (Int × Int)) (k : Nat) : Prop where
  below : Below w.heap.size w wr
  old : w.heap.size ≤ g
  there : wr.there g 0 (n * 2)
  cells : ∀ i p, i < k → xs[i]? = some p → wr.cell? ⟨g, i * 2, none⟩ = some (.int .i64 p.1) ∧ wr.cell? ⟨g, i * 2 + 1, none⟩ = some (.int .i64 p.2)

theorem Laid.prs {w wr : World} {g n : Nat} {xs : List (Int × Int)} (h : Laid w wr g n xs n) (hl : xs.length = n) : Prs wr (some ⟨g, 0, none⟩) n xs :=
  ⟨hl, fun i p hp => by
    obtain ⟨h1, h2⟩ := h.cells i p (by have := (List.getElem?_eq_some_iff.1 hp).1; omega) hp
    exact ⟨g, 0, rfl, by rw [Nat.zero_add]; exact h1, by rw [Nat.zero_add]; exact h2⟩⟩

theorem Laid.drew {w wr : World} {g n : Nat} {xs : List (Int × Int)} {k : Nat} (h : Laid w wr g n xs k) : Laid w wr.drew g n xs k :=
  ⟨h.below.drew, h.old, h.there, h.cells⟩

theorem Laid.next {w wr : World} {g n : Nat} {xs : List (Int × Int)} {k : Nat} {p : Int × Int} (h : Laid w wr g n xs k) (hk : k < n) (hp : xs[k]? = some p) :
    Laid w (wr.setCells g (k * 2) [.int .i64 p.1, .int .i64 p.2]) g n xs (k + 1) := by
  have ht : wr.there g (k * 2) 2 := fun j hj => by
    have := h.there (k * 2 + j) (by omega)
    rw [Nat.zero_add] at this
    exact this
  have hs := World.rangeAt_setCells_same wr g (k * 2) [.int .i64 p.1, .int .i64 p.2] ht
  have hb : Below w.heap.size w (wr.setCells g (k * 2) [.int .i64 p.1, .int .i64 p.2]) := (h.below.setCell (p := ⟨g, k * 2, none⟩) h.old _).setCell (p := ⟨g, k * 2 + 1, none⟩) h.old _
  refine ⟨hb, h.old, World.there_setCells h.there _ _ _, fun i q hi hq => ?_⟩
  · by_cases e : i = k
    · subst e
      rw [hp] at hq
      cases hq
      exact ⟨hs 0 _ rfl, hs 1 _ rfl⟩
    · obtain ⟨h1, h2⟩ := h.cells i q (by omega) hq
      rw [World.cell?_setCells_out g _ (k * 2) wr ⟨g, i * 2, none⟩ (fun _ _ => by left; show i * 2 < k * 2; omega), World.cell?_setCells_out g _ (k * 2) wr ⟨g, i * 2 + 1, none⟩ (fun _ _ => by left; show i * 2 + 1 < k * 2; omega)]
      exact ⟨h1, h2⟩

theorem laid_new {w w1 : World} {n : Nat} {e : TypeId} {vs : List Value} (xs : List (Int × Int)) (h1 : w1.ownsRow w.heap.size e 2 (.slice (some ⟨w.heap.size, 0, none⟩) n n) n vs) (h2 : w.grownBy w1 none) : Laid w w1 w.heap.size n xs 0 := by
  refine ⟨(Below.refl _ w).grown h2 (Nat.le_refl _) (fun k hk => by cases hk), Nat.le_refl _, ?_, fun i p hi => by omega⟩
  rcases h1.2 with ⟨hv, _⟩ | ⟨g, cap, cur, hv, _, hg, hc, _, hsz, _⟩
  · cases hv
  · cases hv
    intro j hj
    refine ⟨?_, ?_⟩
    · rw [cell_of_row _ w.heap.size (0 + j) _ e (0, 0) hg]
      rw [Array.getElem?_eq_getElem (by omega)]
      rfl
    · exact frozen_of_row _ _ _ _ _ hg

/-- zzCopyRuns. -/
def Copied (w : World) (n : Nat) (xs : List (Int × Int)) (e : Ending) (w' : World) : Prop := ∃ so' c', e = .returned (.slice so' n c') ∧ Prs w' so' n xs ∧ Below w.heap.size w w'

theorem Try.info26 : (Try.prog.info? 26).map (fun i => (i.zero, i.size, i.bytes)) = some (some (.agg #[.int .i64 0, .int .i64 0]), 2, 16) := by kernel_rfl
theorem Try.info33 : (Try.prog.info? 33).map (fun i => (i.zero, i.size, i.bytes)) = some (some (.agg #[.int .i64 0, .int .i64 0]), 2, 16) := by kernel_rfl
theorem Try.size26 : (Try.prog.info? 26).map (·.size) = some 2 := by kernel_rfl
theorem Try.size33 : (Try.prog.info? 33).map (·.size) = some 2 := by kernel_rfl

set_option maxRecDepth 100000 in
set_option maxHeartbeats 2000000 in
theorem copy_any {w : World} {so : Option Addr} {n c : Nat} {xs : List (Int × Int)} (h : Prs w so n xs) (hnil : so = none → n = 0 ∧ c = 0) (hn : n ≤ 65536) :
    Calls Try.prog 6 #[.slice so n c] w (Copied w n xs) := by
  cases so with
  | none =>
    obtain ⟨rfl, rfl⟩ := hnil rfl
    have H := hide (show Copied w 0 xs (.returned (.slice none 0 0)) w from ⟨none, 0, rfl, h, Below.refl _ _⟩)
    have hnn := fun (w : World) (a : Option Addr) (n c n' c' : Nat) => Lib.run_eql_slice_nil (P := Try.prog) w 22 26 a n c n' c' Try.underlying22
    clear h hnil
    go_enter Try.func6, Try.ntmps6
    go_wp2
    go_ret
    exact H.out
  | some sa =>
    obtain ⟨i0, hi, hz0, hz1, hz2⟩ := info_parts Try.info26
    have hnn := fun (w : World) (a : Option Addr) (n c n' c' : Nat) => Lib.run_eql_slice_nil (P := Try.prog) w 22 26 a n c n' c' Try.underlying22
    have H := hide h
    have hlen := hide h.len
    clear h hnil
    go_enter Try.func6, Try.ntmps6
    go_wp2_with (at_make; refine wpList_make_full _ rfl _ _ 22 rfl w.heap.size 26 i0 _ 2 Try.underlying22 hi hz0 hz1 .i64 .i64 _ _ n rfl rfl (by simp) (by simp) (by rw [hz2]; omega) (by unfold maxLen; omega) (Nat.le_refl _) ?_)
    intro w1 h1 h2
    have L := hide (laid_new xs h1 h2)
    clear h1 h2 hnn hi hz0 hz1 hz2 i0
    go_wp2_with fail
    go_loopw [4] (fun f4 wr => ∃ i : Nat, i ≤ n ∧ f4 = .int .i64 i ∧ Hid (Laid w wr w.heap.size n xs i)) (fun f4 _ => n - (intOf f4).toNat)
    case atStart => exact ⟨0, Nat.zero_le _, rfl, L⟩
    case round =>
      obtain ⟨i, hi, rfl, LL⟩ := hrel
      by_cases hlt : i < n
      · have hx : xs[i]? = some (xs[i]'(by have := hlen.out; omega)) := List.getElem?_eq_getElem _
        obtain ⟨b, o, hsa, e1, e2⟩ := H.out.cells i _ hx
        obtain rfl := Option.some.inj hsa
        clear hsa
        have hb := World.block_lt_of_cell? w _ e1
        have N := hide (LL.out.next hlt hx)
        generalize xs[i]'(by have := hlen.out; omega) = p at *
        obtain ⟨f, t⟩ := p
        have e1' : wr.cell? ⟨b, o + i * 2, none⟩ = some (.int .i64 f) := by rw [LL.out.below.cell (p := ⟨b, o + i * 2, none⟩) hb]; exact e1
        have e2' : wr.cell? ⟨b, o + i * 2 + 1, none⟩ = some (.int .i64 t) := by rw [LL.out.below.cell (p := ⟨b, o + i * 2 + 1, none⟩) hb]; exact e2
        obtain ⟨t1, t2⟩ := LL.out.there (i * 2) (by omega)
        obtain ⟨t3, t4⟩ := LL.out.there (i * 2 + 1) (by omega)
        rw [Nat.zero_add] at t1 t2 t3 t4
        obtain ⟨v1, t1⟩ := Option.isSome_iff_exists.1 t1
        obtain ⟨v2, t3⟩ := Option.isSome_iff_exists.1 t3
        clear e1 e2 hx LL
        simp only at N
        go_wp2
        go_roundw
        case rel => exact ⟨i + 1, hlt, by go_num, N⟩
        case measure => simp [intOf]; omega
      · obtain rfl : i = n := by omega
        have F := hide (show Copied w i xs (.returned (.slice (some ⟨w.heap.size, 0, none⟩) i i)) wr from ⟨_, _, rfl, LL.out.prs hlen.out, LL.out.below⟩)
        go_wp2
        go_ret
        exact F.out
end Go.Proofs.Qxb6605889a
