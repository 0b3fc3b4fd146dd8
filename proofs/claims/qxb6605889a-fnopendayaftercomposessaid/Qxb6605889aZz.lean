/-
  OURS. ZZopenDayAfter (f7).
-/
import Derived.Test.Qxb6605889aRuns
namespace Go.Proofs.Qxb6605889a
open Go Go.RowKit
set_option linter.unusedVariables false

set_option maxRecDepth 100000 in
set_option maxHeartbeats 2000000 in
theorem zz_any {w : World} {so : Option Addr} {n c : Nat} {xs : List (Int × Int)} (h : Prs w so n xs) (hg : Good xs) (hn : n ≤ 65536) (d k : Int) (hd0 : -1000000000 ≤ d) (hd1 : d ≤ 1000000000) (hk0 : 1 ≤ k) (hk1 : k ≤ 1000000000) :
    Calls Try.prog 7 #[.slice so n c, .int .i64 d, .int .i64 k] w fun e w' => e = .returned (.int .i64 (oda xs d k)) ∧ Below w.heap.size w w' := by
  obtain ⟨i0, hi, hz0, hz1, hz2⟩ := info_parts Try.info33
  have H := hide h
  have HG := hide hg
  have hlen := hide h.len
  clear h hg
  go_enter Try.func7, Try.ntmps7
  go_wp2_with (at_make; refine wpList_make_full _ rfl _ _ 30 rfl w.heap.size 33 i0 _ 2 Try.underlying30 hi hz0 hz1 .i64 .i64 _ _ n rfl rfl (by simp) (by simp) (by rw [hz2]; omega) (by unfold maxLen; omega) (Nat.le_refl _) ?_)
  intro w1 h1 h2
  have L := hide (laid_new xs h1 h2)
  clear h1 h2 hi hz0 hz1 hz2 i0
  go_wp2_with fail
  go_loopw [14] (fun f4 wr => ∃ i : Nat, i ≤ n ∧ f4 = .int .i64 i ∧ Hid (Laid w wr w.heap.size n xs i)) (fun f4 _ => n - (intOf f4).toNat)
  case atStart => exact ⟨0, Nat.zero_le _, rfl, L⟩
  case round =>
    obtain ⟨i, hi, rfl, LL⟩ := hrel
    by_cases hlt : i < n
    · have hx : xs[i]? = some (xs[i]'(by have := hlen.out; omega)) := List.getElem?_eq_getElem _
      obtain ⟨b, o, rfl, e1, e2⟩ := H.out.cells i _ hx
      have hb := World.block_lt_of_cell? w _ e1
      have hne : ¬ w.heap.size = b := by simp only at hb; omega
      have N := hide (LL.out.drew.next hlt hx)
      generalize xs[i]'(by have := hlen.out; omega) = p at *
      obtain ⟨f, t⟩ := p
      have e1' : wr.cell? ⟨b, o + i * 2, none⟩ = some (.int .i64 f) := by rw [LL.out.below.cell (p := ⟨b, o + i * 2, none⟩) hb]; exact e1
      have e2' : wr.cell? ⟨b, o + i * 2 + 1, none⟩ = some (.int .i64 t) := by rw [LL.out.below.cell (p := ⟨b, o + i * 2 + 1, none⟩) hb]; exact e2
      obtain ⟨t1, t2⟩ := LL.out.there (i * 2) (by omega)
      obtain ⟨t3, t4⟩ := LL.out.there (i * 2 + 1) (by omega)
      rw [Nat.zero_add] at t1 t2 t3 t4
      obtain ⟨v1, t1⟩ := Option.isSome_iff_exists.1 t1
      obtain ⟨v2, t3⟩ := Option.isSome_iff_exists.1 t3
      clear e1 e2 hx LL hb
      simp only at N
      go_wp2_with fail
      go_region_held (fun w' => w'.cell? ⟨b, o + i * 2, none⟩ = some (.int .i64 f) ∧ w'.cell? ⟨b, o + i * 2 + 1, none⟩ = some (.int .i64 t)) (go_keep) (fail)
      go_wp2
      go_roundw
      case rel => exact ⟨i + 1, hlt, by go_num, N⟩
      case measure => simp [intOf]; omega
    · obtain rfl : i = n := by omega
      have P2 := hide (LL.out.prs hlen.out)
      have B := hide LL.out.below
      go_wp2_with fail
      refine (oda_any P2.out HG.out hn d k hd0 hd1 hk0 hk1).mono ?_
      rintro e w2 ⟨rfl, B2⟩
      have B3 := hide (B.out.trans (B2.mono B.out.size))
      clear B2
      go_wp2
      go_ret
      exact ⟨rfl, B3.out⟩
end Go.Proofs.Qxb6605889a
