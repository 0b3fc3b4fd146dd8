/-
  OURS. closedDays.openDayAfter (f8).
-/
import Derived.Test.Qxb6605889aPlain
import Derived.WalkKit
import Derived.Below
import Derived.Deep.MidRow
import Derived.BigQuiet
namespace Go.Proofs.Qxb6605889a
open Go Go.RowKit
set_option linter.unusedVariables false

theorem hide {p : Prop} (h : p) : Hid p := h
theorem unhide {p : Prop} (h : Hid p) : p := h

/-- A slice of pairs of integers, as it is read. -/
structure Prs (w : World) (so : Option Addr) (n : Nat) (xs : List (Int × Int)) : Prop where
  len : xs.length = n
  cells : ∀ i p, xs[i]? = some p → ∃ b o, so = some ⟨b, o, none⟩ ∧ w.cell? ⟨b, o + i * 2, none⟩ = some (.int .i64 p.1) ∧ w.cell? ⟨b, o + i * 2 + 1, none⟩ = some (.int .i64 p.2)

theorem Prs.below {w w' : World} {so : Option Addr} {n B : Nat} {xs : List (Int × Int)} (h : Prs w so n xs) (hb : Below B w w') (hB : ∀ b o, so = some ⟨b, o, none⟩ → b < B) : Prs w' so n xs :=
  ⟨h.len, fun i p hp => by
    obtain ⟨b, o, h1, h2, h3⟩ := h.cells i p hp
    have := hB b o h1
    exact ⟨b, o, h1, by rw [hb.cell (p := ⟨b, o + i * 2, none⟩) this]; exact h2, by rw [hb.cell (p := ⟨b, o + i * 2 + 1, none⟩) this]; exact h3⟩⟩

theorem Prs.lt {w : World} {so : Option Addr} {n : Nat} {xs : List (Int × Int)} (h : Prs w so n xs) (hn : 0 < n) : ∀ b o, so = some ⟨b, o, none⟩ → b < w.heap.size := by
  intro b o e
  obtain ⟨b', o', e', h2, _⟩ := h.cells 0 _ (List.getElem?_eq_getElem (by have := h.len; omega))
  rw [e] at e'
  cases e'
  exact World.block_lt_of_cell? w _ h2

set_option maxRecDepth 100000 in
set_option maxHeartbeats 2000000 in
theorem oda_any {w : World} {so : Option Addr} {n c : Nat} {xs : List (Int × Int)} (h : Prs w so n xs) (hg : Good xs) (hn : n ≤ 65536) (d k : Int) (hd0 : -1000000000 ≤ d) (hd1 : d ≤ 1000000000) (hk0 : 1 ≤ k) (hk1 : k ≤ 1000000000) :
    Calls Try.prog 8 #[.slice so n c, .int .i64 d, .int .i64 k] w fun e w' => e = .returned (.int .i64 (oda xs d k)) ∧ Below w.heap.size w w' := by
  have H := hide h
  have HG := hide hg
  have hlen := hide h.len
  clear h hg
  go_enter Try.func8, Try.ntmps8
  go_wp2_with fail
  go_loopw [2, 7, 14] (fun f2 f7 f14 wr => ∃ (i : Nat) (c' k' : Int), i ≤ n ∧ f2 = .int .i64 k' ∧ f7 = .int .i64 c' ∧ f14 = .int .i64 i ∧ Hid (oda (xs.drop i) c' k' = oda xs d k) ∧ -1000000000 ≤ c' ∧ c' ≤ 1000000000 ∧ 1 ≤ k' ∧ k' ≤ k ∧ Hid (Below w.heap.size w wr)) (fun _ _ f14 _ => n - (intOf f14).toNat)
  case atStart => exact ⟨0, d, k, Nat.zero_le _, rfl, rfl, rfl, rfl, hd0, hd1, hk0, Int.le_refl _, Below.refl _ _⟩
  case round =>
    obtain ⟨i, c', k', hi, rfl, rfl, rfl, ho, c0, c1, k0, k1, B⟩ := hrel
    by_cases hlt : i < n
    · have hx : xs[i]? = some (xs[i]'(by have := hlen.out; omega)) := List.getElem?_eq_getElem _
      obtain ⟨b, o, rfl, e1, e2⟩ := H.out.cells i _ hx
      have hgi := HG.out.at hx
      have hb := World.block_lt_of_cell? w _ e1
      have hdr : xs.drop i = xs[i]'(by have := hlen.out; omega) :: xs.drop (i + 1) := List.drop_eq_getElem_cons (by have := hlen.out; omega)
      generalize hp : xs[i]'(by have := hlen.out; omega) = p at *
      obtain ⟨f, t⟩ := p
      have e1' : wr.cell? ⟨b, o + i * 2, none⟩ = some (.int .i64 f) := by rw [B.out.cell (p := ⟨b, o + i * 2, none⟩) hb]; exact e1
      have e2' : wr.cell? ⟨b, o + i * 2 + 1, none⟩ = some (.int .i64 t) := by rw [B.out.cell (p := ⟨b, o + i * 2 + 1, none⟩) hb]; exact e2
      clear e1 e2 hp
      simp only at hgi
      obtain ⟨g1, g2, g3⟩ := hgi
      have hr : Hid (wr.rangeAt b (o + i * 2) [.int .i64 f, .int .i64 t]) := fun j v hv => by
        match j, hv with
        | 0, hv => simp at hv; subst hv; exact e1'
        | 1, hv => simp at hv; subst hv; exact e2'
      have ho' : Hid (oda ((f, t) :: xs.drop (i + 1)) c' k' = oda xs d k) := by show _ = _; rw [← hdr]; exact ho.out
      have hsz := B.out.size
      have hB : Hid (Below w.heap.size w (wr.alloc (Obj.cells #[Value.int IntKind.i64 f, Value.int IntKind.i64 t] 33))) := B.out.alloc B.out.size _
      clear hx ho hdr H HG
      by_cases h1 : t ≤ c'
      · go_wp2_with (refine wpList_load_mid rfl 33 (.tmp 16) rfl b (o + i * 2) rfl [.int .i64 f, .int .i64 t] _ hr.out Try.underlying33 rfl (by kernel_rfl) ?_)
        go_roundw
        case rel => exact ⟨i + 1, c', k', hlt, rfl, rfl, by go_num, by have := ho'.out; rw [oda_skip _ _ h1] at this; exact this, c0, c1, k0, k1, hB⟩
        case measure => simp [intOf]; omega
      · by_cases h2 : 0 < f - c' - 1
        · by_cases h3 : k' ≤ f - c' - 1
          · have hR := hide (oda_stop (p := (f, t)) (xs.drop (i + 1)) h1 h2 h3)
            go_wp2_with (refine wpList_load_mid rfl 33 (.tmp 16) rfl b (o + i * 2) rfl [.int .i64 f, .int .i64 t] _ hr.out Try.underlying33 rfl (by kernel_rfl) ?_)
            go_ret
            refine ⟨?_, hB.out⟩
            rw [← ho'.out, hR.out]
            rfl
          · have hR := hide (oda_go (p := (f, t)) (xs.drop (i + 1)) h1 h2 h3)
            go_wp2_with (refine wpList_load_mid rfl 33 (.tmp 16) rfl b (o + i * 2) rfl [.int .i64 f, .int .i64 t] _ hr.out Try.underlying33 rfl (by kernel_rfl) ?_)
            go_roundw
            case rel => exact ⟨i + 1, t, k' - (f - c' - 1), hlt, rfl, rfl, by go_num, by have := ho'.out; rw [hR.out] at this; exact this, by omega, by omega, by omega, by omega, hB⟩
            case measure => simp [intOf]; omega
        · have hR := hide (oda_in (p := (f, t)) (xs.drop (i + 1)) k' h1 h2)
          go_wp2_with (refine wpList_load_mid rfl 33 (.tmp 16) rfl b (o + i * 2) rfl [.int .i64 f, .int .i64 t] _ hr.out Try.underlying33 rfl (by kernel_rfl) ?_)
          go_roundw
          case rel => exact ⟨i + 1, t, k', hlt, rfl, rfl, by go_num, by have := ho'.out; rw [hR.out] at this; exact this, by omega, by omega, k0, k1, hB⟩
          case measure => simp [intOf]; omega
    · have hR : Hid (c' + k' = oda xs d k) := by
        show c' + k' = _
        rw [← ho.out, List.drop_eq_nil_of_le (by have := hlen.out; omega), oda]
      go_wp2
      go_ret
      exact ⟨by rw [hR.out]; rfl, B.out⟩
end Go.Proofs.Qxb6605889a
