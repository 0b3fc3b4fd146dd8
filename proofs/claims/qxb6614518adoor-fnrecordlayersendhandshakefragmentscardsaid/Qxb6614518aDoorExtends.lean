/-
  OURS. zzExtends (f14), where it holds.
-/
import Derived.Test.Qxb6614518aDoorClones
namespace Go.Proofs.Qxb6614518aDoor
open Go Go.RowKit
set_option linter.unusedVariables false

/-- A list of our own is a list that can be read. -/
theorem Dgv.rowsAt {w : World} {base : Nat} {so : Option Addr} {n c : Nat} {vs : List Value} {ls : List (List Int)} (h : Dgv w base (.slice so n c) vs ls) (hb : ∀ l ∈ ls, l.length ≤ 140737488355328) : RowsAt w so n c ls := by
  have hlen := h.len
  have hr := h.row
  have hn : ls.length = n := by
    rcases hr.2 with ⟨hv, h0⟩ | ⟨g, cap, cur, hv, _⟩
    · cases hv; exact h0
    · cases hv; rfl
  refine ⟨hn, fun h0 => ?_, fun i l hl => ?_⟩
  · subst h0
    rcases hr.2 with ⟨hv, h0⟩ | ⟨g, cap, cur, hv, _⟩
    · cases hv; exact ⟨rfl, rfl⟩
    · cases hv
  · have hi := (List.getElem?_eq_some_iff.1 hl).1
    rcases hr.2 with ⟨hv, h0⟩ | ⟨g, cap, cur, hv, _⟩
    · omega
    · cases hv
      have hv : vs[i]? = some (vs[i]'(by omega)) := List.getElem?_eq_getElem (by omega)
      have hO := h.el i _ l hv hl
      have hcap : ∃ a m c', vs[i]'(by omega) = .slice a m c' ∧ m ≤ c' := by
        rcases hO.2 with ⟨e, h0⟩ | ⟨g', cap', cur', e, _, _, hc, _⟩
        · exact ⟨none, 0, 0, e, Nat.le_refl _⟩
        · exact ⟨_, _, cap', e, hc⟩
      obtain ⟨a, m, c', e, hmc⟩ := hcap
      rw [e] at hO hv
      have hs := hO.src
      refine ⟨g, 0, a, m, c', rfl, by rw [Nat.zero_add, hr.cellAt i (by omega)]; exact hv, hs, ?_, hmc⟩
      rw [← hs.len]
      exact hb l (List.mem_of_getElem? hl)

theorem src_take {w : World} {so : Option Addr} {m c : Nat} {l x : List Int} (h : Src w so m c (l ++ x)) : Src w so l.length c l := by
  have hl := h.len
  rw [List.length_append] at hl
  refine ⟨rfl, fun h0 => ?_, fun a ha j z hz => h.cells a ha j z (by rw [List.getElem?_append_left (List.getElem?_eq_some_iff.1 hz).1]; exact hz)⟩
  have := h.none h0
  omega

theorem src_drewN {w : World} {so : Option Addr} {m c : Nat} {l : List Int} (h : Src w so m c l) (q : Nat) : Src (w.drewN q) so m c l := ⟨h.len, h.none, h.cells⟩

theorem RowsAt.one {w : World} {so : Option Addr} {n c : Nat} {ls : List (List Int)} (h : RowsAt w so n c ls) {i : Nat} {l : List Int} (hl : ls[i]? = some l) : ∃ b o a c', so = some ⟨b, o, none⟩ ∧ w.cell? ⟨b, o + i, none⟩ = some (.slice a l.length c') ∧ Src w a l.length c' l ∧ l.length ≤ 140737488355328 ∧ l.length ≤ c' := by
  obtain ⟨b, o, a, m, c', h1, h2, h3, h4, h5⟩ := h.rows i l hl
  have := h3.len
  subst this
  exact ⟨b, o, a, c', h1, h2, h3, h4, h5⟩

set_option maxRecDepth 100000 in
set_option maxHeartbeats 1000000 in
theorem ext_any {w : World} {so so' : Option Addr} {n K c c' : Nat} {ls ini : List (List Int)} {l x : List Int} (h : RowsAt w so n c ls) (h' : RowsAt w so' (K + 1) c' (ini ++ [l])) (hK : K < n) (hn : n ≤ 4000000)
    (he : ∀ i, i < K → ls[i]? = ini[i]?) (hl : ls[K]? = some (l ++ x)) :
    Calls Tryd.prog 14 #[.slice so n c, .slice so' (K + 1) c'] w fun e w' => e = .returned (.bool true) ∧ ∃ q, w' = w.drewN q := by
  have hini : ini.length = K := by have := h'.len; simpa using this
  obtain ⟨b, o, a, ac, rfl, e1, s1, m1, m1'⟩ := h.one hl
  obtain ⟨b', o', a', ac', rfl, e2, s2, m2, m2'⟩ := h'.one (i := K) (l := l) (by rw [List.getElem?_append_right (by omega), hini, Nat.sub_self]; rfl)
  have hrow : ∀ i, i < K → ∃ m a1 c1 a2 c2, w.cell? ⟨b, o + i, none⟩ = some (.slice a1 m c1) ∧ w.cell? ⟨b', o' + i, none⟩ = some (.slice a2 m c2) ∧ m ≤ 140737488355328 ∧ ∃ xs, Src w a1 m c1 xs ∧ Src w a2 m c2 xs := by
    intro i hi
    have hx : ini[i]? = some (ini[i]'(by omega)) := List.getElem?_eq_getElem (by omega)
    obtain ⟨b1, o1, a1, c1, q1, q2, q3, q4, _⟩ := h.one (i := i) (l := ini[i]'(by omega)) (by rw [he i hi]; exact hx)
    obtain ⟨b2, o2, a2, c2, r1, r2, r3, r4, _⟩ := h'.one (i := i) (l := ini[i]'(by omega)) (by rw [List.getElem?_append_left (by omega)]; exact hx)
    cases q1
    cases r1
    exact ⟨_, a1, c1, a2, c2, q2, r2, q4, _, q3, r3⟩
  have HR := hide hrow
  have HS := hide (And.intro (src_take s1) s2)
  have hle : l.length ≤ (l ++ x).length := by simp
  generalize (l ++ x).length = m at *
  generalize hll : l.length = ml at *
  clear hll h h' he hl hini hrow s1 s2
  have fin : ∀ (q : Nat), Calls Tryd.prog 11 #[.slice a ml ac, .slice a' ml ac'] (w.drewN q) fun e w' => e = .returned (.bool true) ∧ ∃ q', w' = (w.drewN q).drewN q' := fun q => eq_any (src_drewN HS.out.1 q) (src_drewN HS.out.2 q) m2
  have FIN := hide fin
  clear fin
  go_enter Tryd.func14, Tryd.ntmps14
  go_wp2_with fail
  go_loopw [6] (fun i wr => ∃ (k q : Nat), k ≤ K ∧ i = .int .i64 k ∧ Hid (wr = w.drewN q)) (fun i _ => K - (intOf i).toNat)
  case atStart => exact ⟨0, 0, Nat.zero_le _, rfl, rfl⟩
  case round =>
    obtain ⟨k, q, hk, rfl, hw⟩ := hrel
    by_cases hlt : k < K
    · obtain ⟨mm, a1, c1, a2, c2, r1, r2, r3, xs, r4, r5⟩ := HR.out k hlt
      have G := hide (show Src wr a1 mm c1 xs ∧ Src wr a2 mm c2 xs by rw [hw.out]; exact ⟨src_drewN r4 q, src_drewN r5 q⟩)
      replace r1 : wr.cell? ⟨b, o + k, none⟩ = some (.slice a1 mm c1) := by rw [hw.out]; exact r1
      replace r2 : wr.cell? ⟨b', o' + k, none⟩ = some (.slice a2 mm c2) := by rw [hw.out]; exact r2
      clear r4 r5 e1 e2
      have hkn : k < n := by omega
      have hkK : (k : Int) < (K : Int) + 1 := by omega
      go_wp2_with fail
      go_quiet ((go_at_call 11; exact Calls.quiet_of (eq_any (src_drewN G.out.1 _) (src_drewN G.out.2 _) r3)))
      go_wp2
      go_roundw
      case rel => exact ⟨k + 1, _, by omega, by go_num, by rw [hw.out, World.drewN_drewN]; rfl⟩
      case measure => simp [intOf]; omega
    · obtain rfl : k = K := by omega
      replace e1 : wr.cell? ⟨b, o + k, none⟩ = some (.slice a m ac) := by rw [hw.out]; exact e1
      replace e2 : wr.cell? ⟨b', o' + k, none⟩ = some (.slice a' ml ac') := by rw [hw.out]; exact e2
      have FF := hide (show Calls Tryd.prog 11 #[.slice a ml ac, .slice a' ml ac'] wr fun e w' => e = .returned (.bool true) ∧ ∃ q', w' = w.drewN q' by
        rw [hw.out]
        refine (FIN.out q).mono fun e w' ⟨h1, q', h2⟩ => ⟨h1, q + q', ?_⟩
        rw [h2, World.drewN_drewN])
      clear HS HR FIN
      cases a with
      | none =>
        go_wp2_with fail
        refine (unhide FF).mono ?_
        rintro e w1 ⟨rfl, q1, hq⟩
        have hq' := hide hq
        clear hq
        go_wp2
        go_ret
        exact ⟨rfl, q1, hq'.out⟩
      | some ad =>
        go_wp2_with fail
        refine (unhide FF).mono ?_
        rintro e w1 ⟨rfl, q1, hq⟩
        have hq' := hide hq
        clear hq
        go_wp2
        go_ret
        exact ⟨rfl, q1, hq'.out⟩
end Go.Proofs.Qxb6614518aDoor
