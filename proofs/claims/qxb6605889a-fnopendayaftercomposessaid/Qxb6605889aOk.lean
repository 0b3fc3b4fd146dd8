/-
  OURS. zzRunsOK (f5).
-/
import Derived.Test.Qxb6605889aOda
namespace Go.Proofs.Qxb6605889a
open Go Go.RowKit
set_option linter.unusedVariables false

structure Upto (xs : List (Int × Int)) (i : Nat) : Prop where
  each : ∀ (j : Nat) (p : Int × Int), j < i → xs[j]? = some p → -67108864 ≤ p.1 ∧ p.2 ≤ 67108864 ∧ p.1 ≤ p.2
  next : ∀ (j : Nat) (p q : Int × Int), j + 1 < i → xs[j]? = some p → xs[j + 1]? = some q → p.2 + 1 < q.1

theorem Upto.good {xs : List (Int × Int)} {i : Nat} (h : Upto xs i) (hi : xs.length ≤ i) : Good xs :=
  good_of xs (fun j p hp => h.each j p (by have := (List.getElem?_eq_some_iff.1 hp).1; omega) hp) (fun j p q hp hq => h.next j p q (by have := (List.getElem?_eq_some_iff.1 hq).1; omega) hp hq)

theorem Upto.step {xs : List (Int × Int)} {i : Nat} (h : Upto xs i) {p : Int × Int} (hp : xs[i]? = some p) (h1 : -67108864 ≤ p.1 ∧ p.2 ≤ 67108864 ∧ p.1 ≤ p.2) (h2 : ∀ (j : Nat) (q : Int × Int), j + 1 = i → xs[j]? = some q → q.2 + 1 < p.1) : Upto xs (i + 1) :=
  ⟨fun j q hj hq => by
    by_cases e : j = i
    · subst e
      rw [hp] at hq
      cases hq
      exact h1
    · exact h.each j q (by omega) hq, fun j q r hj hq hr => by
    by_cases e : j + 1 = i
    · subst e
      rw [hp] at hr
      cases hr
      exact h2 j q rfl hq
    · exact h.next j q r (by omega) hq hr⟩

/-- What zzRunsOK tells. -/
def Told (w : World) (xs : List (Int × Int)) (e : Ending) (w' : World) : Prop := ∃ b, e = .returned (.bool b) ∧ (b = true → Good xs) ∧ ∃ q, w' = w.drewN q

set_option maxRecDepth 100000 in
set_option maxHeartbeats 2000000 in
theorem ok_any {w : World} {so : Option Addr} {n c : Nat} {xs : List (Int × Int)} (h : Prs w so n xs) (hn : n ≤ 65536) :
    Calls Try.prog 5 #[.slice so n c] w (Told w xs) := by
  have H := hide h
  have hlen := hide h.len
  clear h
  go_enter Try.func5, Try.ntmps5
  go_wp2_with fail
  go_loopw [3] (fun f3 wr => ∃ i q : Nat, i ≤ n ∧ f3 = .int .i64 i ∧ Hid (Upto xs i) ∧ Hid (wr = w.drewN q)) (fun f3 _ => n - (intOf f3).toNat)
  case atStart => exact ⟨0, 0, Nat.zero_le _, rfl, ⟨fun j p hj => by omega, fun j p q hj => by omega⟩, rfl⟩
  case round =>
    obtain ⟨i, q, hi, rfl, U, hw⟩ := hrel
    by_cases hlt : i < n
    · have hx : xs[i]? = some (xs[i]'(by have := hlen.out; omega)) := List.getElem?_eq_getElem _
      obtain ⟨b, o, rfl, e1, e2⟩ := H.out.cells i _ hx
      have FF : Hid (∀ q2, Told w xs (.returned (.bool false)) (wr.drewN q2)) := fun q2 => ⟨false, rfl, (fun h => by cases h), q + q2, by rw [hw.out, World.drewN_drewN]⟩
      generalize hpp : xs[i]'(by have := hlen.out; omega) = p at *
      obtain ⟨f, t⟩ := p
      have hx' := hide hx
      clear hx hpp
      replace e1 : wr.cell? ⟨b, o + i * 2, none⟩ = some (.int .i64 f) := by rw [hw.out]; exact e1
      replace e2 : wr.cell? ⟨b, o + i * 2 + 1, none⟩ = some (.int .i64 t) := by rw [hw.out]; exact e2
      by_cases c1 : f < -67108864
      · have d1 : decide (f < -67108864) = true := by simp; omega
        go_wp2_with fail
        go_big_quiet (fail)
        go_wp2
        go_ret
        exact FF.out _
      · have d1 : decide (f < -67108864) = false := by simp; omega
        by_cases c2 : 67108864 < t
        · have d2 : decide (67108864 < t) = true := by simp; omega
          go_wp2_with fail
          go_big_quiet (fail)
          go_wp2
          go_ret
          exact FF.out _
        · have d2 : decide (67108864 < t) = false := by simp; omega
          by_cases c3 : t < f
          · have d3 : decide (t < f) = true := by simp; omega
            go_wp2_with fail
            go_big_quiet (fail)
            go_wp2
            go_ret
            exact FF.out _
          · have d3 : decide (t < f) = false := by simp; omega
            by_cases c4 : i = 0
            · have ST := hide (U.out.step hx'.out (by simp only; omega) (fun j q hj => by omega))
              have z : (i : Int) ≤ 0 := by omega
              have z2 : decide ((0 : Int) < i) = false := by rw [decide_eq_false_iff_not]; omega
              have z3 : decide (0 < i) = false := by rw [decide_eq_false_iff_not]; omega
              have z4 : ¬ 0 < i := by omega
              clear c4
              go_wp2_with fail
              go_big_quiet (fail)
              have hw2 : Hid (wr.drewN nq = w.drewN (q + nq)) := by show _ = _; rw [hw.out, World.drewN_drewN]
              generalize wr.drewN nq = u at hw2 ⊢
              go_wp2_with fail
              go_big_quiet (fail)
              go_wp2
              go_roundw
              case rel => exact ⟨i + 1, _, hlt, by go_num, ST, by rw [hw2.out, World.drewN_drewN]; rfl⟩
              case measure => simp [intOf]; omega
            · obtain ⟨j, rfl⟩ : ∃ j, i = j + 1 := ⟨i - 1, by omega⟩
              have hy : xs[j]? = some (xs[j]'(by have := hlen.out; omega)) := List.getElem?_eq_getElem _
              obtain ⟨b', o', hbo, e3, e4⟩ := H.out.cells j _ hy
              cases hbo
              have hu := U.out.each j _ (by omega) hy
              generalize hpp : xs[j]'(by have := hlen.out; omega) = p at *
              obtain ⟨f', t'⟩ := p
              have hy' := hide hy
              simp only at hu
              obtain ⟨u1, u2, u3⟩ := hu
              clear hy hpp e3
              have z : (0 : Int) < (j : Int) + 1 := by omega
              have z2 : decide ((0 : Int) < (j : Int) + 1) = true := by rw [decide_eq_true_iff]; omega
              go_wp2_with fail
              go_big_quiet (fail)
              have hw2 : Hid (wr.drewN nq = w.drewN (q + nq)) := by show _ = _; rw [hw.out, World.drewN_drewN]
              replace e1 : (wr.drewN nq).cell? ⟨b, o + (j + 1) * 2, none⟩ = some (.int .i64 f) := e1
              replace e4 : (wr.drewN nq).cell? ⟨b, o + j * 2 + 1, none⟩ = some (.int .i64 t') := by rw [hw2.out]; exact e4
              replace FF : Hid (∀ q2, Told w xs (.returned (.bool false)) ((wr.drewN nq).drewN q2)) := fun q2 => by rw [World.drewN_drewN]; exact FF.out _
              clear e2
              generalize wr.drewN nq = u at hw2 e1 e4 FF ⊢
              by_cases c5 : f ≤ t' + 1
              · go_wp2_with fail
                go_big_quiet (fail)
                go_wp2
                go_ret
                exact FF.out _
              · have ST := hide (U.out.step hx'.out (by simp only; omega) (fun j' q hj hq => by
                  obtain rfl : j' = j := by omega
                  rw [hy'.out] at hq
                  cases hq
                  simp only
                  omega))
                go_wp2_with fail
                go_big_quiet (fail)
                go_wp2
                go_roundw
                case rel => exact ⟨j + 1 + 1, _, hlt, by go_num, ST, by rw [hw2.out, World.drewN_drewN]; rfl⟩
                case measure => simp [intOf]; omega
    · have FT : Hid (Told w xs (.returned (.bool true)) wr) := ⟨true, rfl, (fun _ => U.out.good (by have := hlen.out; omega)), q, hw.out⟩
      go_wp2
      go_ret
      exact FT.out
end Go.Proofs.Qxb6605889a
