/-
  OURS. overhead (f23), appendRecord (f24).
-/
import Derived.Test.Qxb6614518aDoorLeaf2
import Derived.BigQuiet
import Derived.Deep.QuietTactic
namespace Go.Proofs.Qxb6614518aDoor
open Go Go.RowKit
set_option linter.unusedVariables false

/-- The record layer in its block: epoch, the next number, no protection. -/
def LS (w : World) (lb : Nat) (ep sq : Int) : Prop :=
  ∃ cs : Array Value, w.heap[lb]? = some (.cells cs 51 (0, 0)) ∧ cs[0]? = some (.int .u64 ep) ∧ cs[1]? = some (.int .u64 sq) ∧ cs[2]? = some .nilIface

theorem LS.cell0 {w : World} {lb : Nat} {ep sq : Int} (h : LS w lb ep sq) : w.cell? ⟨lb, 0, none⟩ = some (.int .u64 ep) := by
  obtain ⟨cs, h, h0, _, _⟩ := h
  rw [cell_of_row w lb 0 cs 51 (0, 0) h]; exact h0
theorem LS.cell1 {w : World} {lb : Nat} {ep sq : Int} (h : LS w lb ep sq) : w.cell? ⟨lb, 1, none⟩ = some (.int .u64 sq) := by
  obtain ⟨cs, h, _, h1, _⟩ := h
  rw [cell_of_row w lb 1 cs 51 (0, 0) h]; exact h1
theorem LS.cell2 {w : World} {lb : Nat} {ep sq : Int} (h : LS w lb ep sq) : w.cell? ⟨lb, 2, none⟩ = some .nilIface := by
  obtain ⟨cs, h, _, _, h2⟩ := h
  rw [cell_of_row w lb 2 cs 51 (0, 0) h]; exact h2
theorem LS.frozen {w : World} {lb : Nat} {ep sq : Int} (h : LS w lb ep sq) (j : Nat) : w.frozen? ⟨lb, j, none⟩ = false := by
  obtain ⟨cs, h, _⟩ := h
  exact frozen_of_row w lb j cs 51 h
theorem LS.lt {w : World} {lb : Nat} {ep sq : Int} (h : LS w lb ep sq) : lb < w.heap.size := by
  obtain ⟨cs, h, _⟩ := h
  exact (Array.getElem?_eq_some_iff.1 h).1
theorem LS.kp {S : Nat → Prop} {w w' : World} {lb : Nat} {ep sq : Int} (h : LS w lb ep sq) (hk : Kp S w w') (hn : ¬ S lb) : LS w' lb ep sq := by
  have hl := h.lt
  obtain ⟨cs, h, r⟩ := h
  exact ⟨cs, (hk.block lb hl hn).trans h, r⟩
theorem LS.ne {w : World} {lb : Nat} {ep sq : Int} (h : LS w lb ep sq) {base : Nat} {e : TypeId} (he : e ≠ 51) {v : Value} {n : Nat} {xs : List Value} (ho : w.ownsRow base e 1 v n xs) : v.ownBlock ≠ some lb := by
  obtain ⟨cs, h, _⟩ := h
  intro hv
  rcases ho.2 with ⟨rfl, _⟩ | ⟨g, cap, cur, rfl, _, hg, _⟩
  · simp [Value.ownBlock] at hv
  · simp [Value.ownBlock] at hv
    subst hv
    rw [h] at hg
    simp at hg
    exact he hg.2.symm
theorem LS.set {w : World} {lb : Nat} {ep sq : Int} (h : LS w lb ep sq) (x : Int) : LS (w.setCell ⟨lb, 1, none⟩ (.int .u64 x)) lb ep x := by
  obtain ⟨cs, h, h0, h1, h2⟩ := h
  have hs : 1 < cs.size := (Array.getElem?_eq_some_iff.1 h1).1
  refine ⟨cs.setIfInBounds 1 (.int .u64 x), heap_setCell_same w lb 1 cs 51 _ h, ?_, ?_, ?_⟩
  · rw [Array.getElem?_setIfInBounds_ne (by decide)]; exact h0
  · rw [Array.getElem?_setIfInBounds_self_of_lt hs]
  · rw [Array.getElem?_setIfInBounds_ne (by decide)]; exact h2

set_option maxHeartbeats 400000 in
theorem over_any (lb : Nat) (w : World) (h2 : w.cell? ⟨lb, 2, none⟩ = some .nilIface) :
    Calls Tryd.prog 23 #[.pointer (some ⟨lb, 0, none⟩)] w fun e w' => e = .returned (.int .i64 13) ∧ w = w' := by
  go_enter Tryd.func23, Tryd.ntmps23
  go_wp2
  go_ret
  exact ⟨rfl, rfl⟩

set_option maxHeartbeats 400000 in
theorem apr_err (lb : Nat) (v : Value) (ep sq : Int) (so : Option Addr) (m c : Nat) (ev : Value) (w : World) (hls : LS w lb ep sq) (hgt : 281474976710655 < sq) (hev : w.cell? ⟨1, 0, none⟩ = some ev) :
    Calls Tryd.prog 24 #[.pointer (some ⟨lb, 0, none⟩), v, .int .u8 22, .slice so m c] w fun e w' => e = .returned (.tuple #[v, ev]) ∧ w' = w.drew := by
  have c1 := hls.cell1
  clear hls
  go_enter Tryd.func24, Tryd.ntmps24
  go_wp2
  go_region
  all_goals (try go_wp2)
  all_goals go_ret2
  all_goals exact ⟨rfl, rfl⟩

set_option maxHeartbeats 1000000 in
theorem apr_ok (lb : Nat) (v : Value) (ep sq : Int) (so : Option Addr) (m c : Nat) (zs ys : List Int) (w : World) (base : Nat) (how : Ow w base v zs) (hb : base ≤ w.heap.size) (hl : zs.length ≤ 1073740000)
    (he0 : 0 ≤ ep) (he1 : ep ≤ 18446744073709551615) (hs0 : 0 ≤ sq) (hs1 : sq ≤ 281474976710655)
    (hsrc : Src w so m c ys) (hoff : ∀ a, so = some a → ¬ v.ownBlock = some a.block) (hm : m ≤ 65535) (hls : LS w lb ep sq) :
    Calls Tryd.prog 24 #[.pointer (some ⟨lb, 0, none⟩), v, .int .u8 22, .slice so m c] w fun e w' => ∃ v', e = .returned (.tuple #[v', .nilIface]) ∧ Ow w' base v' (zs ++ rec1 ep sq ys) ∧ Kp (fun k => v.ownBlock = some k ∨ k = lb) w w' ∧ Near w v v' ∧ LS w' lb ep (sq + 1) := by
  have c0 := hls.cell0
  have c1 := hls.cell1
  have c2 := hls.cell2
  have hlb := hls.lt
  have hls' := hide hls
  clear hls
  have how' := hide how
  have hsrc' := hide hsrc
  have hoff' := hide hoff
  clear how hsrc hoff
  go_enter Tryd.func24, Tryd.ntmps24
  go_wp2
  go_region
  go_wp2_with fail
  have k0 : Kp (fun k => v.ownBlock = some k) w ((w.alloc (.cells #[.int .u8 22, .int .u16 65277, .int .u64 ep, .int .u64 sq, .slice so m c, .slice none 0 0] 72)).drew) := ((Kp.refl _ w).alloc _).drew
  refine (rapp_any v ep sq so m c zs ys _ base (World.ownsRow.drew (World.ownsRow.alloc how'.out _)) (by simp; omega) hl he0 he1 hs0 (by omega) (hsrc'.out.kp k0 hoff'.out) hoff'.out hm).mono ?_
  rintro e w1 ⟨v1, rfl, A1⟩
  replace A1 := App.pre k0 A1
  clear k0
  have hls1 : LS w1 lb ep sq := hls'.out.kp A1.kp (hls'.out.ne (by decide) how'.out)
  have d1 := hls1.cell1
  have f1 := hls1.frozen 1
  have hvlb : v1.ownBlock ≠ some lb := hls1.ne (by decide) A1.own
  have AF : Ow (w1.setCell ⟨lb, 1, none⟩ (.int .u64 (sq + 1))) base v1 (zs ++ rec1 ep sq ys) ∧ Kp (fun k => v.ownBlock = some k ∨ k = lb) w (w1.setCell ⟨lb, 1, none⟩ (.int .u64 (sq + 1))) ∧ Near w v v1 ∧ LS (w1.setCell ⟨lb, 1, none⟩ (.int .u64 (sq + 1))) lb ep (sq + 1) :=
    ⟨ownsRow_kp A1.own ((Kp.refl (fun k => k = lb) w1).setCell (p := ⟨lb, 1, none⟩) (.inl rfl) _) (fun k hk e => hvlb (by rw [← e]; exact hk)), (A1.kp.mono (fun i _ h => .inl h)).setCell (p := ⟨lb, 1, none⟩) (.inl (.inr rfl)) _, A1.near, hls1.set _⟩
  clear A1 hls1 hvlb c0 c1 c2
  go_wp2
  go_ret2
  exact ⟨v1, rfl, AF⟩
end Go.Proofs.Qxb6614518aDoor
