/-
  OURS. FnOpenDayAfterComposes (f4): the walk.
-/
import Derived.Test.Qxb6605889aNth
namespace Go.Proofs.Qxb6605889a
open Go Go.RowKit
set_option linter.unusedVariables false

set_option maxRecDepth 100000 in
set_option maxHeartbeats 2000000 in
theorem walk4 {w : World} {so : Option Addr} {n c : Nat} {xs : List (Int × Int)} (h : Prs w so n xs) (hnil : so = none → n = 0 ∧ c = 0) (hn : n ≤ 9223372036854775807) (d m k : Int) :
    Calls Try.prog 4 #[.slice so n c, .int .i64 d, .int .i64 m, .int .i64 k] w (Holds w) := by
  have H := hide h
  have HN := hide hnil
  have hlen := hide h.len
  clear h hnil
  have F0 := hide (show Holds w (.returned (.bool true)) w from ⟨rfl, Below.refl _ _⟩)
  by_cases g0 : 65536 < n
  · have g0' : (65536 : Int) < n := by omega
    go_enter Try.func4, Try.ntmps4
    go_wp2
    go_ret
    exact F0.out
  by_cases g1 : d < -67108864
  · go_enter Try.func4, Try.ntmps4
    go_wp2
    go_ret
    exact F0.out
  by_cases g2 : 67108864 < d
  · go_enter Try.func4, Try.ntmps4
    go_wp2
    go_ret
    exact F0.out
  by_cases g5 : m < 1
  · go_enter Try.func4, Try.ntmps4
    go_wp2
    go_ret
    exact F0.out
  by_cases g6 : 67108864 < m
  · go_enter Try.func4, Try.ntmps4
    go_wp2
    go_ret
    exact F0.out
  by_cases g3 : k < 1
  · go_enter Try.func4, Try.ntmps4
    go_wp2
    go_ret
    exact F0.out
  by_cases g4 : 67108864 < k
  · go_enter Try.func4, Try.ntmps4
    go_wp2
    go_ret
    exact F0.out
  have hn' : n ≤ 65536 := by omega
  go_enter Try.func4, Try.ntmps4
  go_wp2_with fail
  refine (ok_any (c := c) H.out hn').mono ?_
  rintro e w1 ⟨bb, rfl, hgood, q1, hq1⟩
  have B1 := hide (show Below w.heap.size w w1 by rw [hq1]; exact below_drewN q1)
  have P1 := hide (show Prs w1 so n xs by rw [hq1]; exact ⟨H.out.len, H.out.cells⟩)
  have hgood' := hide hgood
  clear hgood hq1
  cases bb
  · go_wp2
    go_ret
    exact ⟨rfl, B1.out⟩
  have HG := hide (hgood'.out rfl)
  clear hgood'
  go_wp2_with fail
  refine (copy_any (c := c) P1.out HN.out hn').mono ?_
  rintro e w2 ⟨so', c', rfl, P2', B2'⟩
  have B2 := hide (B1.out.trans (B2'.mono B1.out.size))
  have P2 := hide P2'
  clear P2' B2'
  go_wp2_with fail
  go_loopw [9, 10] (fun f9 f10 wr => ∃ (i q : Nat) (s : Int), i ≤ n ∧ f9 = .int .i64 s ∧ f10 = .int .i64 i ∧ Hid (s = tot (xs.take i)) ∧ 0 ≤ s ∧ s ≤ 134217729 ∧ Hid (wr = w2.drewN q)) (fun _ f10 _ => n - (intOf f10).toNat)
  case atStart => exact ⟨0, 0, 0, Nat.zero_le _, rfl, rfl, rfl, by omega, by omega, rfl⟩
  case round =>
    obtain ⟨i, q, s, hi, rfl, rfl, hs, s0, s1, hw⟩ := hrel
    by_cases hlt : i < n
    · have hx : xs[i]? = some (xs[i]'(by have := hlen.out; omega)) := List.getElem?_eq_getElem _
      obtain ⟨b, o, rfl, e1, e2⟩ := P2.out.cells i _ hx
      have hgi := HG.out.at hx
      generalize xs[i]'(by have := hlen.out; omega) = p at *
      obtain ⟨f, t⟩ := p
      have hx' := hide hx
      clear hx
      replace e1 : wr.cell? ⟨b, o + i * 2, none⟩ = some (.int .i64 f) := by rw [hw.out]; exact e1
      replace e2 : wr.cell? ⟨b, o + i * 2 + 1, none⟩ = some (.int .i64 t) := by rw [hw.out]; exact e2
      simp only at hgi
      obtain ⟨g7, g8, g9⟩ := hgi
      have NX := hide (show s + (t - f + 1) = tot (xs.take (i + 1)) by
        rw [tot_take xs i (f, t) hx'.out, ← hs.out])
      have NB := hide (show 0 ≤ s + (t - f + 1) ∧ s + (t - f + 1) ≤ 134217729 by
        rw [NX.out]
        have h1 := tot_nonneg (xs.take (i + 1)) (HG.out.take (i + 1))
        have h2 := tot_bound _ (HG.out.take (i + 1))
        omega)
      have hnb := NB.out
      clear NB
      go_wp2_with fail
      go_quiet (fail)
      go_wp2
      go_roundw
      case rel => exact ⟨i + 1, _, s + (t - f + 1), hlt, by go_num, by go_num, NX, hnb.1, hnb.2, by rw [hw.out, World.drewN_drewN]; rfl⟩
      case measure => simp [intOf]; omega
    · have hs2 := hide (show s = tot xs by rw [hs.out, List.take_of_length_le (by have := hlen.out; omega)])
      have B3 := hide (show Below w.heap.size w wr by rw [hw.out]; exact ⟨B2.out.os, B2.out.tape, B2.out.output, B2.out.size, B2.out.block⟩)
      have P3 := hide (show Prs wr so' n xs by rw [hw.out]; exact ⟨P2.out.len, P2.out.cells⟩)
      clear hs hw P2 B2
      go_wp2_with fail
      refine (zz_any (c := c') P3.out HG.out hn' d (m + k) (by omega) (by omega) (by omega) (by omega)).mono ?_
      rintro e w4 ⟨rfl, B4'⟩
      have B4 := hide (B3.out.trans (B4'.mono B3.out.size))
      have P4 := hide (show Prs w4 so' n xs by
        by_cases h0 : 0 < n
        · exact P3.out.below B4' (P3.out.lt h0)
        · exact ⟨P3.out.len, fun i p hp => by have := (List.getElem?_eq_some_iff.1 hp).1; have := hlen.out; omega⟩)
      clear B4'
      go_wp2_with fail
      refine (zz_any (c := c') P4.out HG.out hn' d m (by omega) (by omega) (by omega) (by omega)).mono ?_
      rintro e w5 ⟨rfl, B5'⟩
      have B5 := hide (B4.out.trans (B5'.mono B4.out.size))
      have P5 := hide (show Prs w5 so' n xs by
        by_cases h0 : 0 < n
        · exact P4.out.below B5' (P4.out.lt h0)
        · exact ⟨P4.out.len, fun i p hp => by have := (List.getElem?_eq_some_iff.1 hp).1; have := hlen.out; omega⟩)
      clear B5'
      have A0 := oda_bounds xs HG.out d m (by omega)
      have A4 := tot_bound xs HG.out
      have A9 : -400000000 ≤ oda xs d m ∧ oda xs d m ≤ 400000000 := by omega
      clear A0
      go_wp2_with fail
      refine (zz_any (c := c') P5.out HG.out hn' (oda xs d m) k (by omega) (by omega) (by omega) (by omega)).mono ?_
      rintro e w6 ⟨rfl, B6'⟩
      have B6 := hide (B5.out.trans (B6'.mono B5.out.size))
      have P6 := hide (show Prs w6 so' n xs by
        by_cases h0 : 0 < n
        · exact P5.out.below B6' (P5.out.lt h0)
        · exact ⟨P5.out.len, fun i p hp => by have := (List.getElem?_eq_some_iff.1 hp).1; have := hlen.out; omega⟩)
      clear B6'
      have A1 := hide (oda_comp xs HG.out d m k (by omega) (by omega))
      have A2 := oda_bounds xs HG.out d (m + k) (by omega)
      rw [← A1.out]
      rw [← hs2.out] at A2
      clear A1
      generalize oda xs d (m + k) = a at *
      have k1 : d + m + k ≤ a := by omega
      have k2 : a ≤ d + m + k + s := by omega
      clear A2 A9 A4
      go_wp2
      go_ret
      exact ⟨by rfl, B6.out⟩
end Go.Proofs.Qxb6605889a
