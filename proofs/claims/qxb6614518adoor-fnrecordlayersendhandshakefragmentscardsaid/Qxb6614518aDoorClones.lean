/-
  OURS. zzCloneDatagrams (f7).
-/
import Derived.Test.Qxb6614518aDoorBytes
namespace Go.Proofs.Qxb6614518aDoor
open Go Go.RowKit
set_option linter.unusedVariables false

/-- After k rounds. -/
structure CInv (w wr : World) (n : Nat) (ls : List (List Int)) (k : Nat) (vs : List Value) : Prop where
  row : wr.ownsRow w.heap.size 26 1 (.slice (some ⟨w.heap.size, 0, none⟩) n n) n (vs ++ List.replicate (n - k) (.slice none 0 0))
  len : vs.length = k
  el : ∀ (i : Nat) (u : Value) (l : List Int), vs[i]? = some u → ls[i]? = some l → Ow wr w.heap.size u l
  apart : ∀ (i j : Nat) (u u' : Value) (q : Nat), i ≠ j → vs[i]? = some u → vs[j]? = some u' → u.ownBlock = some q → u'.ownBlock ≠ some q
  kp : Kp (fun _ => False) w wr

theorem CInv.next {w wr w1 : World} {n : Nat} {ls : List (List Int)} {k : Nat} {vs : List Value} {v : Value} {l : List Int} (h : CInv w wr n ls k vs) (hls : ls.length = n) (hk : k < n) (hl : ls[k]? = some l) (h1 : Ow w1 wr.heap.size v l) (hk1 : Kp (fun _ => False) wr w1) :
    CInv w (w1.setCell ⟨w.heap.size, k, none⟩ v) n ls (k + 1) (vs ++ [v]) := by
  have hsz := h.kp.size
  have hlen := h.len
  have hrow := ownsRow_kp h.row hk1 (fun _ _ h => h)
  have hst := hrow.stored k v
  have hkp : Kp (fun j => j = w.heap.size) w1 (w1.setCell ⟨w.heap.size, k, none⟩ v) := (Kp.refl (fun j => j = w.heap.size) w1).setCell (p := ⟨w.heap.size, k, none⟩) (.inl rfl) _
  have hgb : ∀ {b2 n2 : Nat} {v2 : Value} {xs2 : List Value}, w1.ownsRow b2 5 1 v2 n2 xs2 → ∀ j, v2.ownBlock = some j → ¬ j = w.heap.size := fun h j hj e => rows_ne (by decide) h hrow j hj (by subst e; rfl)
  have hold : ∀ (i : Nat) (u : Value), vs[i]? = some u → ∀ q, u.ownBlock = some q → q < wr.heap.size := fun i u hu q hq => by
    have hi := (List.getElem?_eq_some_iff.1 hu).1
    exact ((h.el i u (ls[i]'(by omega)) hu (List.getElem?_eq_getElem (by omega))).lt q hq).2
  refine ⟨?_, by simp [hlen], ?_, ?_, ?_⟩
  · have e : (vs ++ List.replicate (n - k) (Value.slice none 0 0)).set k v = (vs ++ [v]) ++ List.replicate (n - (k + 1)) (Value.slice none 0 0) := by
      rw [List.set_append_right _ _ (by omega), hlen, Nat.sub_self, show n - k = (n - (k + 1)) + 1 by omega, List.replicate_succ]
      simp
    rw [e] at hst
    exact hst.1
  · intro i u l2 hu hl2
    by_cases hi : i < vs.length
    · rw [List.getElem?_append_left hi] at hu
      have he := ownsRow_kp (h.el i u l2 hu hl2) hk1 (fun _ _ h => h)
      exact ownsRow_kp he hkp (hgb he)
    · have h' := (List.getElem?_eq_some_iff.1 hu).1
      simp at h'
      obtain rfl : i = vs.length := by omega
      rw [List.getElem?_append_right (Nat.le_refl _), Nat.sub_self] at hu
      simp at hu
      subst hu
      rw [hlen, hl] at hl2
      obtain rfl := Option.some.inj hl2
      exact ownsRow_kp (ownsRow_mono h1 hsz) hkp (hgb h1)
  · intro i j u u' q hij hu hu' hq hq'
    have hv : ∀ q, v.ownBlock = some q → wr.heap.size ≤ q := fun q hq => (h1.lt q hq).1
    have h3 := (List.getElem?_eq_some_iff.1 hu).1
    have h4 := (List.getElem?_eq_some_iff.1 hu').1
    simp at h3 h4
    by_cases hi : i < vs.length
    · rw [List.getElem?_append_left hi] at hu
      by_cases hj : j < vs.length
      · rw [List.getElem?_append_left hj] at hu'
        exact h.apart i j u u' q hij hu hu' hq hq'
      · obtain rfl : j = vs.length := by omega
        rw [List.getElem?_append_right (Nat.le_refl _), Nat.sub_self] at hu'
        simp at hu'
        subst hu'
        have := hold i u hu q hq
        have := hv q hq'
        omega
    · obtain rfl : i = vs.length := by omega
      rw [List.getElem?_append_right (Nat.le_refl _), Nat.sub_self] at hu
      simp at hu
      subst hu
      rw [List.getElem?_append_left (by omega)] at hu'
      have := hold j u' hu' q hq'
      have := hv q hq
      omega
  · exact (h.kp.trans hk1 (fun _ _ h => h)).setCell (p := ⟨w.heap.size, k, none⟩) (.inr (Nat.le_refl _)) _

set_option maxRecDepth 100000 in
set_option maxHeartbeats 1000000 in
theorem clones_any {w : World} {so : Option Addr} {n c : Nat} {ls : List (List Int)} (h : RowsAt w so n c ls) (hn : n ≤ 65536) :
    Calls Tryd.prog 7 #[.slice so n c] w fun e w' => ∃ v' vs', e = .returned v' ∧ Dgv w' w.heap.size v' vs' ls ∧ Kp (fun _ => False) w w' := by
  have hen := fun (w : World) (a : Option Addr) (n c n' c' : Nat) => Lib.run_eql_slice_nil (P := Tryd.prog) w 23 26 a n c n' c' Tryd.underlying23
  obtain ⟨i0, hi, hz0, hz1, hz2⟩ := info_parts Tryd.info26
  have hl := hide h.len
  cases so with
  | none =>
    obtain ⟨rfl, rfl⟩ := h.nil rfl
    obtain rfl : ls = [] := List.eq_nil_of_length_eq_zero h.len
    clear h
    go_enter Tryd.func7, Tryd.ntmps7
    go_wp2
    go_ret
    exact ⟨_, [], rfl, ⟨World.ownsRow_nil _ _ _ _, fun i u l hu => by simp at hu, fun i j u u' q _ hu => by simp at hu⟩, Kp.refl _ _⟩
  | some a =>
    have H := hide h
    clear h
    go_enter Tryd.func7, Tryd.ntmps7
    go_wp2_with (at_make; refine wpList_make_full _ rfl _ _ 23 rfl w.heap.size 26 i0 (.slice none 0 0) 1 Tryd.underlying23 hi hz0 hz1 .i64 .i64 _ _ n rfl rfl (by simp) (by simp) (by rw [hz2]; omega) (by unfold maxLen; omega) (Nat.le_refl _) ?_)
    intro w1 h1 h2
    have I0 := hide (show CInv w w1 n ls 0 [] from ⟨by simpa [toList_madeCells_one, Value.cells] using h1, rfl, (fun i u l hu => by simp at hu), (fun i j u u' q _ hu => by simp at hu), (Kp.refl _ w).grown h2 (fun k hk => by cases hk)⟩)
    clear h1 h2
    go_wp2_with fail
    go_loopw [4] (fun i wr => ∃ (k : Nat) (vs : List Value), k ≤ n ∧ i = .int .i64 k ∧ Hid (CInv w wr n ls k vs)) (fun i _ => n - (intOf i).toNat)
    case atStart => exact ⟨0, [], Nat.zero_le _, rfl, I0⟩
    case round =>
      obtain ⟨k, vs, hk, rfl, hI⟩ := hrel
      by_cases hlt : k < n
      · obtain ⟨b, o, a', m, c', ha, e1, e2, hm⟩ := (H.out.kp hI.out.kp).row hlt
        obtain rfl := Option.some.inj ha
        clear ha
        have e2' := hide e2
        clear e2
        have hlk := hide (show ls[k]? = some (ls.getD k []) by rw [List.getD_eq_getElem?_getD, List.getElem?_eq_getElem (by rw [unhide hl]; exact hlt)]; rfl)
        generalize ls.getD k [] = l at e2' hlk
        go_wp2_with fail
        refine (clone_any e2'.out hm).mono ?_
        rintro e w2 ⟨v2, rfl, O2, K2⟩
        have I1 := hide (CInv.next hI.out (unhide hl) hlt (unhide hlk) O2 K2)
        have hrow2 := ownsRow_kp hI.out.row K2 (fun _ _ h => h)
        have hll := hI.out.len
        have e3 : ∃ v0, w2.cell? ⟨w.heap.size, k, none⟩ = some v0 := ⟨.slice none 0 0, by rw [hrow2.cellAt k (by omega), List.getElem?_append_right (by omega), List.getElem?_replicate, if_pos (by omega)]⟩
        obtain ⟨v0, e3⟩ := e3
        have e4 : w2.frozen? ⟨w.heap.size, k, none⟩ = false := hrow2.frozenAt k
        obtain ⟨vo, vn, vc, rfl⟩ := O2.form3
        clear O2 K2 hrow2 hll
        go_wp2
        go_roundw
        case rel => exact ⟨k + 1, _, by omega, by go_num, I1⟩
        case measure => simp [intOf]; omega
      · obtain rfl : k = n := by omega
        have F := hide (show Dgv wr w.heap.size (.slice (some ⟨w.heap.size, 0, none⟩) k k) vs ls ∧ Kp (fun _ => False) w wr from ⟨⟨by have := hI.out.row; rw [Nat.sub_self, List.replicate_zero, List.append_nil] at this; rw [unhide hl]; exact this, hI.out.el, hI.out.apart⟩, hI.out.kp⟩)
        go_wp2
        go_ret
        exact ⟨_, vs, rfl, F.out⟩
end Go.Proofs.Qxb6614518aDoor
