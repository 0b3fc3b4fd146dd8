/-
  OURS. fragmentRoom and send by their contracts over a list of datagrams of our own.
-/
import Derived.Test.Qxb6614518aDoorSend
import Derived.Test.Qxb6614518aDoorPlain
namespace Go.Proofs.Qxb6614518aDoor
open Go Go.RowKit
set_option linter.unusedVariables false

/-- The last of a list that is not empty, as the walks want it. -/
theorem Dgv.last {w : World} {base : Nat} {v : Value} {vs : List Value} {ls : List (List Int)} (h : Dgv w base v vs ls) {k : Nat} (hk : ls.length = k + 1) :
    ∃ g cap u l, v = .slice (some ⟨g, 0, none⟩) (k + 1) cap ∧ vs[k]? = some u ∧ ls[k]? = some l ∧ ls.getLast? = some l ∧ Ow w base u l ∧ w.cell? ⟨g, k, none⟩ = some u ∧ w.frozen? ⟨g, k, none⟩ = false := by
  have hlen := h.len
  have hr := h.row
  rw [hk] at hr
  rcases hr.2 with ⟨_, h0⟩ | ⟨g, cap, cur, rfl, _⟩
  · omega
  have hv : vs[k]? = some (vs[k]'(by omega)) := List.getElem?_eq_getElem (by omega)
  have hl : ls[k]? = some (ls[k]'(by omega)) := List.getElem?_eq_getElem (by omega)
  exact ⟨g, cap, _, _, rfl, hv, hl, by rw [List.getLast?_eq_getElem?, show ls.length - 1 = k by omega]; exact hl, h.el k _ _ hv hl, by rw [hr.cellAt k (by omega)]; exact hv, hr.frozenAt k⟩

theorem Dgv.empty {w : World} {base : Nat} {v : Value} {vs : List Value} {ls : List (List Int)} (h : Dgv w base v vs ls) (hk : ls = []) : ∃ so c, v = .slice so 0 c := by
  subst hk
  rcases h.row.2 with ⟨rfl, _⟩ | ⟨g, cap, cur, rfl, _⟩
  · exact ⟨none, 0, rfl⟩
  · exact ⟨_, cap, rfl⟩

theorem room_any (lb : Nat) (dv : Value) (vs : List Value) (ls : List (List Int)) (w : World) (base : Nat) (hD : Dgv w base dv vs ls) (hk : ls.length ≤ 4000000) (h2 : w.cell? ⟨lb, 2, none⟩ = some .nilIface) :
    Calls Tryd.prog 20 #[.pointer (some ⟨lb, 0, none⟩), dv] w fun e w' => e = .returned (.int .i64 (room ls : Nat)) ∧ w = w' := by
  by_cases h0 : ls = []
  · obtain ⟨so, c, rfl⟩ := hD.empty h0
    subst h0
    exact room_nil lb so c w h2
  · obtain ⟨k, hkl⟩ : ∃ k, ls.length = k + 1 := ⟨ls.length - 1, by have := List.length_pos_iff.2 h0; omega⟩
    obtain ⟨g, cap, u, l, rfl, hv, hl, hlast, hO, hc, hf⟩ := hD.last hkl
    obtain ⟨ao, ac, rfl⟩ := hO.form
    by_cases hlt : l.length < 1475
    · refine (room_lt lb g k l.length cap ac ao w h2 (by omega) hc hlt).mono fun e w' ⟨he, hw⟩ => ⟨?_, hw⟩
      rw [he, room, hlast]
      simp only [hlt, if_true]
      rw [Int.natCast_sub (by omega)]
      rfl
    · refine (room_ge lb g k l.length cap ac ao w h2 (by omega) hc (by omega)).mono fun e w' ⟨he, hw⟩ => ⟨?_, hw⟩
      rw [he, room, hlast]
      simp only [hlt, if_false]
      rfl

theorem send_any (lb : Nat) (dv : Value) (vs : List Value) (ls : List (List Int)) (ep sq : Int) (so : Option Addr) (m c : Nat) (ys : List Int) (w : World) (base : Nat) (hD : Dgv w base dv vs ls) (hk : ls.length ≤ 4000000) (hb : base ≤ w.heap.size)
    (he0 : 0 ≤ ep) (he1 : ep ≤ 18446744073709551615) (hs0 : 0 ≤ sq) (hs1 : sq ≤ 281474976710655) (hbig : ∀ l ∈ ls, l.length ≤ 140737488355328)
    (hsrc : Src w so m c ys) (hoff : ∀ u ∈ vs, ∀ a, so = some a → ¬ u.ownBlock = some a.block) (hm : m ≤ 65535) (hls : LS w lb ep sq) (hlb : base ≤ lb) :
    Calls Tryd.prog 21 #[.pointer (some ⟨lb, 0, none⟩), dv, .int .u8 22, .slice so m c] w fun e w' => ∃ dv' vs', e = .returned (.tuple #[dv', .nilIface]) ∧ Dgv w' base dv' vs' (step ls (rec1 ep sq ys)) ∧ Kpo base w w' ∧ LS w' lb ep (sq + 1) := by
  by_cases h0 : ls = []
  · obtain ⟨dso, dc, rfl⟩ := hD.empty h0
    subst h0
    exact send_new0 lb dso dc vs ep sq so m c ys w base hD hb he0 he1 hs0 hs1 hsrc hm hls hlb
  · obtain ⟨k, hkl⟩ : ∃ k, ls.length = k + 1 := ⟨ls.length - 1, by have := List.length_pos_iff.2 h0; omega⟩
    obtain ⟨g, cap, u, l, rfl, hv, hl, hlast, hO, hc, hf⟩ := hD.last hkl
    have hlen : ys.length = m := hsrc.len
    by_cases hfit : l.length + 13 + m ≤ 1500
    · refine (send_fit lb g k cap u l vs ep sq so m c ys w base ls hD hkl (by omega) hv hl hfit hb he0 he1 hs0 hs1 hsrc (hoff u (List.mem_of_getElem? hv)) hls hlb).mono fun e w' ⟨dv', vs', he, h1, h2⟩ => ⟨dv', vs', he, ?_, h2⟩
      rw [step, hlast]
      simp only [length_rec1]
      rw [if_pos (by omega), hkl]
      exact h1
    · obtain ⟨ao, ac, rfl⟩ := hO.form
      refine (send_newk lb g k l.length cap ac ao vs ep sq so m c ys w base ls hD hkl (by omega) hc (hbig l (List.mem_of_getElem? hl)) (by omega) hb he0 he1 hs0 hs1 hsrc hm hls hlb).mono fun e w' ⟨dv', vs', he, h1, h2⟩ => ⟨dv', vs', he, ?_, h2⟩
      rw [step, hlast]
      simp only [length_rec1]
      rw [if_neg (by omega)]
      exact h1

theorem send_none (lb : Nat) (dv : Value) (vs : List Value) (ls : List (List Int)) (ep sq : Int) (so : Option Addr) (m c : Nat) (w : World) (base : Nat) (hD : Dgv w base dv vs ls) (hk : ls.length ≤ 4000000) (hb : base ≤ w.heap.size) (hbig : ∀ l ∈ ls, l.length ≤ 140737488355328)
    (eT : Nat) (ea : Addr) (hev : w.cell? ⟨1, 0, none⟩ = some (.iface eT (.pointer (some ea)))) (hgt : 281474976710655 < sq) (hm : m ≤ 65535) (hls : LS w lb ep sq) (hlb : base ≤ lb) :
    Calls Tryd.prog 21 #[.pointer (some ⟨lb, 0, none⟩), dv, .int .u8 22, .slice so m c] w fun e w' => e = .returned (.tuple #[dv, .iface eT (.pointer (some ea))]) ∧ Dgv w' base dv vs ls ∧ Kpo base w w' ∧ LS w' lb ep sq := by
  by_cases h0 : ls = []
  · obtain ⟨dso, dc, rfl⟩ := hD.empty h0
    refine (send_err0 lb dso dc ep sq so m c w .nilIface eT ea hev hgt hls).mono fun e w' ⟨he, n, hw⟩ => ⟨he, ?_⟩
    subst hw
    have hk0 : Kp (fun _ => False) w (w.drewN n) := (Kp.refl _ w).drewN n
    exact ⟨hD.kp hk0 (fun _ _ h => h) (fun _ _ _ _ h => h), Kpo.of hk0 (fun _ _ h => h.elim), hls.kp hk0 (fun h => h)⟩
  · obtain ⟨k, hkl⟩ : ∃ k, ls.length = k + 1 := ⟨ls.length - 1, by have := List.length_pos_iff.2 h0; omega⟩
    obtain ⟨g, cap, u, l, rfl, hv, hl, hlast, hO, hc, hf⟩ := hD.last hkl
    obtain ⟨ao, ac, rfl⟩ := hO.form
    refine (send_errk lb g k l.length cap ac ao ep sq so m c w eT ea hev (by omega) hc hf (hbig l (List.mem_of_getElem? hl)) hm hgt hls).mono fun e w' ⟨he, n, hw⟩ => ⟨he, ?_⟩
    have hk0 : Kp (fun _ => False) w (w.drewN n) := (Kp.refl _ w).drewN n
    rcases hw with hw | hw
    · subst hw
      exact ⟨hD.kp hk0 (fun _ _ h => h) (fun _ _ _ _ h => h), Kpo.of hk0 (fun _ _ h => h.elim), hls.kp hk0 (fun h => h)⟩
    · subst hw
      have hD1 := hD.kp hk0 (fun _ _ h => h) (fun _ _ _ _ h => h)
      have hrow := hD1.row
      rw [hkl] at hrow
      have hst := World.ownsRow.stored hrow k (.slice ao l.length ac)
      have hkp : Kp (fun j => j = g) (w.drewN n) ((w.drewN n).setCell ⟨g, k, none⟩ (.slice ao l.length ac)) := (Kp.refl (fun j => j = g) _).setCell (p := ⟨g, k, none⟩) (.inl rfl) _
      have hlen := hD.len
      have hset : vs.set k (.slice ao l.length ac) = vs := by
        apply List.ext_getElem?
        intro i
        by_cases hi : i = k
        · subst hi; rw [List.getElem?_set_self (by omega), hv]
        · rw [List.getElem?_set_ne (by omega)]
      refine ⟨⟨by rw [hset] at hst; rw [hkl]; exact hst.1, fun i u l hu hl => ?_, hD1.apart⟩, ?_, (hls.kp hk0 (fun h => h)).kp hkp (fun e => (hls.kp hk0 (fun h => h)).ne (by decide) hD1.row (by rw [e]; rfl))⟩
      · have he1 := hD1.el i u l hu hl
        exact ownsRow_kp he1 hkp (fun j hj e => rows_ne (by decide) he1 hD1.row j hj (by subst e; rfl))
      · refine Kpo.of ((hk0.mono (S' := Old base w) (fun _ _ h => h.elim)).trans hkp (fun i _ h => ?_)) (fun _ _ h => h)
        subst h; exact old_of_row hD.row (.inr (.inl rfl)) i rfl
end Go.Proofs.Qxb6614518aDoor
