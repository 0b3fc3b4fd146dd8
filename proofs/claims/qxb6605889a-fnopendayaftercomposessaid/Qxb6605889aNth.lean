/-
  OURS. FnOpenDayAfterIsNthOpenDay (f3): the walk.
-/
import Derived.Test.Qxb6605889aOk
import Derived.Test.Qxb6605889aZz
namespace Go.Proofs.Qxb6605889a
open Go Go.RowKit
set_option linter.unusedVariables false

theorem below_drewN {w : World} (q : Nat) : Below w.heap.size w (w.drewN q) := ⟨rfl, rfl, rfl, Nat.le_refl _, fun _ _ => rfl⟩

/-- What a law's call leaves. -/
def Holds (w : World) (e : Ending) (w' : World) : Prop := e = .returned (.bool true) ∧ Below w.heap.size w w'

set_option maxRecDepth 100000 in
set_option maxHeartbeats 2000000 in
theorem walk3 {w : World} {so : Option Addr} {n c : Nat} {xs : List (Int × Int)} (h : Prs w so n xs) (hnil : so = none → n = 0 ∧ c = 0) (hn : n ≤ 9223372036854775807) (d k : Int) :
    Calls Try.prog 3 #[.slice so n c, .int .i64 d, .int .i64 k] w (Holds w) := by
  have H := hide h
  have HN := hide hnil
  have hlen := hide h.len
  clear h hnil
  have F0 := hide (show Holds w (.returned (.bool true)) w from ⟨rfl, Below.refl _ _⟩)
  by_cases g0 : 65536 < n
  · have g0' : (65536 : Int) < n := by omega
    go_enter Try.func3, Try.ntmps3
    go_wp2
    go_ret
    exact F0.out
  by_cases g1 : d < -67108864
  · go_enter Try.func3, Try.ntmps3
    go_wp2
    go_ret
    exact F0.out
  by_cases g2 : 67108864 < d
  · go_enter Try.func3, Try.ntmps3
    go_wp2
    go_ret
    exact F0.out
  by_cases g3 : k < 1
  · go_enter Try.func3, Try.ntmps3
    go_wp2
    go_ret
    exact F0.out
  by_cases g4 : 67108864 < k
  · go_enter Try.func3, Try.ntmps3
    go_wp2
    go_ret
    exact F0.out
  have hn' : n ≤ 65536 := by omega
  go_enter Try.func3, Try.ntmps3
  go_wp2_with fail
  refine (ok_any (c := c) H.out hn').mono ?_
  rintro e w1 ⟨bb, rfl, hgood, q1, hq1⟩
  have B1 := hide (show Below w.heap.size w w1 by rw [hq1]; exact below_drewN q1)
  have P1 := hide (show Prs w1 so n xs by rw [hq1]; exact ⟨H.out.len, H.out.cells⟩)
  have hgood' := hide hgood
  clear hgood hq1
  cases bb
  · go_wp2
    go_ret
    exact ⟨rfl, B1.out⟩
  have HG := hide (hgood'.out rfl)
  clear hgood'
  go_wp2_with fail
  refine (copy_any (c := c) P1.out HN.out hn').mono ?_
  rintro e w2 ⟨so', c', rfl, P2', B2'⟩
  have B2 := hide (B1.out.trans (B2'.mono B1.out.size))
  have P2 := hide P2'
  clear P2' B2'
  go_wp2_with fail
  refine (zz_any (c := c') P2.out HG.out hn' d k (by omega) (by omega) (by omega) (by omega)).mono ?_
  rintro e w3 ⟨rfl, B3'⟩
  have B3 := hide (B2.out.trans (B3'.mono B2.out.size))
  have P3 := hide (show Prs w3 so' n xs by
    by_cases h0 : 0 < n
    · exact P2.out.below B3' (P2.out.lt h0)
    · exact ⟨P2.out.len, fun i p hp => by have := (List.getElem?_eq_some_iff.1 hp).1; have := hlen.out; omega⟩)
  clear B3'
  have A1 := oda_gt xs d k (by omega)
  have A2 := hide (oda_nth xs HG.out d k (by omega))
  have A3 := oda_bounds xs HG.out d k (by omega)
  have A4 := tot_bound xs HG.out
  have A5 : oda xs d k ≤ 400000000 := by omega
  generalize oda xs d k = a at A1 A2 A3 A5 ⊢
  have A6 : -400000000 ≤ a := by omega
  clear A3 A4 P1 P2 B1 B2 H HN
  go_wp2_with fail
  go_loop [8, 9] (fun f8 f9 => ∃ (i : Nat) (s : Int), i ≤ n ∧ f8 = .int .i64 s ∧ f9 = .int .i64 i ∧ Hid (s = ovs d a (xs.take i)) ∧ 0 ≤ s ∧ s ≤ 134217729) (fun _ f9 => n - (intOf f9).toNat)
  case atStart => exact ⟨0, 0, Nat.zero_le _, rfl, rfl, rfl, by omega, by omega⟩
  case round =>
    obtain ⟨i, s, hi, rfl, rfl, hs, s0, s1⟩ := hrel
    by_cases hlt : i < n
    · have hx : xs[i]? = some (xs[i]'(by have := hlen.out; omega)) := List.getElem?_eq_getElem _
      obtain ⟨b, o, rfl, e1, e2⟩ := P3.out.cells i _ hx
      have hgi := HG.out.at hx
      have hni := A2.out.1 _ (List.mem_of_getElem? hx)
      generalize xs[i]'(by have := hlen.out; omega) = p at *
      obtain ⟨f, t⟩ := p
      have hx' := hide hx
      clear hx
      simp only at hgi hni
      obtain ⟨g5, g6, g7⟩ := hgi
      by_cases q1 : f ≤ a
      · have q2 : t < a := by omega
        clear hni
        by_cases q3 : f < d + 1
        · by_cases q4 : d + 1 ≤ t
          · have NX := hide (show s + (t - (d + 1) + 1) = ovs d a (xs.take (i + 1)) by
              rw [ovs_take d a xs i (f, t) hx'.out, ← hs.out]
              have : ov (f, t) d a = t - (d + 1) + 1 := by
                unfold ov
                simp only
                rw [if_pos (by omega)]
                omega
              omega)
            have NB := hide (show 0 ≤ s + (t - (d + 1) + 1) ∧ s + (t - (d + 1) + 1) ≤ 134217729 by
              rw [NX.out]
              have h1 := ovs_bound d a (xs.take (i + 1)) (HG.out.take (i + 1))
              have h2 := tot_bound _ (HG.out.take (i + 1))
              omega)
            have hnb := NB.out
            clear NB
            go_wp2
            go_round
            case rel => exact ⟨i + 1, s + (t - (d + 1) + 1), hlt, by go_num, by go_num, NX, hnb.1, hnb.2⟩
            case measure => simp [intOf]; omega

          · have NX := hide (show s + (0) = ovs d a (xs.take (i + 1)) by
              rw [ovs_take d a xs i (f, t) hx'.out, ← hs.out]
              have : ov (f, t) d a = 0 := by
                unfold ov
                simp only
                rw [if_neg (by omega)]
              omega)
            have NB := hide (show 0 ≤ s + (0) ∧ s + (0) ≤ 134217729 by
              rw [NX.out]
              have h1 := ovs_bound d a (xs.take (i + 1)) (HG.out.take (i + 1))
              have h2 := tot_bound _ (HG.out.take (i + 1))
              omega)
            have hnb := NB.out
            clear NB
            go_wp2
            go_round
            case rel => exact ⟨i + 1, s + (0), hlt, by rw [Int.add_zero], by go_num, NX, hnb.1, hnb.2⟩
            case measure => simp [intOf]; omega

        · have NX := hide (show s + (t - f + 1) = ovs d a (xs.take (i + 1)) by
            rw [ovs_take d a xs i (f, t) hx'.out, ← hs.out]
            have : ov (f, t) d a = t - f + 1 := by
              unfold ov
              simp only
              rw [if_pos (by omega)]
              omega
            omega)
          have NB := hide (show 0 ≤ s + (t - f + 1) ∧ s + (t - f + 1) ≤ 134217729 by
            rw [NX.out]
            have h1 := ovs_bound d a (xs.take (i + 1)) (HG.out.take (i + 1))
            have h2 := tot_bound _ (HG.out.take (i + 1))
            omega)
          have hnb := NB.out
          clear NB
          go_wp2
          go_round
          case rel => exact ⟨i + 1, s + (t - f + 1), hlt, by go_num, by go_num, NX, hnb.1, hnb.2⟩
          case measure => simp [intOf]; omega

      · have q2 : a < t := by omega
        have q3 : d + 1 ≤ f := by omega
        have q5 : a < f := by omega
        clear hni
        have NX := hide (show s + (0) = ovs d a (xs.take (i + 1)) by
          rw [ovs_take d a xs i (f, t) hx'.out, ← hs.out]
          have : ov (f, t) d a = 0 := by
            unfold ov
            simp only
            rw [if_neg (by omega)]
          omega)
        have NB := hide (show 0 ≤ s + (0) ∧ s + (0) ≤ 134217729 by
          rw [NX.out]
          have h1 := ovs_bound d a (xs.take (i + 1)) (HG.out.take (i + 1))
          have h2 := tot_bound _ (HG.out.take (i + 1))
          omega)
        have hnb := NB.out
        clear NB
        go_wp2
        go_round
        case rel => exact ⟨i + 1, s + (0), hlt, by rw [Int.add_zero], by go_num, NX, hnb.1, hnb.2⟩
        case measure => simp [intOf]; omega

    · have FIN := hide (show a - d - s = k by
        have := A2.out.2
        rw [hs.out, List.take_of_length_le (by have := hlen.out; omega)]
        exact this)
      have FB : (a - d - s == k) = true := by rw [beq_iff_eq]; exact FIN.out
      go_wp2
      go_ret
      exact ⟨by rfl, B3.out⟩
end Go.Proofs.Qxb6605889a
