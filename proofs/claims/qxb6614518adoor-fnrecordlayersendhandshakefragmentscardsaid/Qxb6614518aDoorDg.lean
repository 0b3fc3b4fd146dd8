/-
  OURS. fragmentRoom (f20); a list of datagrams of our own ('Dgv'); what a push and a turn of the last do to it.
-/
import Derived.Test.Qxb6614518aDoorRec
namespace Go.Proofs.Qxb6614518aDoor
open Go Go.RowKit
set_option linter.unusedVariables false

set_option maxRecDepth 100000 in
set_option maxHeartbeats 400000 in
theorem room_nil (lb : Nat) (so : Option Addr) (c : Nat) (w : World) (h2 : w.cell? ⟨lb, 2, none⟩ = some .nilIface) :
    Calls Tryd.prog 20 #[.pointer (some ⟨lb, 0, none⟩), .slice so 0 c] w fun e w' => e = .returned (.int .i64 1475) ∧ w = w' := by
  go_enter Tryd.func20, Tryd.ntmps20
  go_wp2_with (go_at_call 23; refine (over_any lb _ h2).mono ?_; rintro e w' ⟨rfl, rfl⟩)
  go_ret
  exact ⟨rfl, rfl⟩

set_option maxRecDepth 100000 in
set_option maxHeartbeats 400000 in
theorem room_lt (lb g k l c c' : Nat) (a : Option Addr) (w : World) (h2 : w.cell? ⟨lb, 2, none⟩ = some .nilIface) (hk : k ≤ 4000000) (hc : w.cell? ⟨g, k, none⟩ = some (.slice a l c')) (hl : l < 1475) :
    Calls Tryd.prog 20 #[.pointer (some ⟨lb, 0, none⟩), .slice (some ⟨g, 0, none⟩) (k + 1) c] w fun e w' => e = .returned (.int .i64 (1475 - l)) ∧ w = w' := by
  go_enter Tryd.func20, Tryd.ntmps20
  go_wp2_with (go_at_call 23; refine (over_any lb _ h2).mono ?_; rintro e w' ⟨rfl, rfl⟩)
  go_ret
  exact ⟨rfl, rfl⟩

set_option maxRecDepth 100000 in
set_option maxHeartbeats 400000 in
theorem room_ge (lb g k l c c' : Nat) (a : Option Addr) (w : World) (h2 : w.cell? ⟨lb, 2, none⟩ = some .nilIface) (hk : k ≤ 4000000) (hc : w.cell? ⟨g, k, none⟩ = some (.slice a l c')) (hl : 1475 ≤ l) :
    Calls Tryd.prog 20 #[.pointer (some ⟨lb, 0, none⟩), .slice (some ⟨g, 0, none⟩) (k + 1) c] w fun e w' => e = .returned (.int .i64 1475) ∧ w = w' := by
  go_enter Tryd.func20, Tryd.ntmps20
  go_wp2_with (go_at_call 23; refine (over_any lb _ h2).mono ?_; rintro e w' ⟨rfl, rfl⟩)
  go_ret
  exact ⟨rfl, rfl⟩

theorem Tryd.info26 : (Tryd.prog.info? 26).map (fun i => (i.zero, i.size, i.bytes)) = some (some (.slice none 0 0), 1, 24) := by kernel_rfl

/-- A list of datagrams of our own: its row, its datagrams' rows, no two in one block. -/
structure Dgv (w : World) (base : Nat) (v : Value) (vs : List Value) (ls : List (List Int)) : Prop where
  row : w.ownsRow base 26 1 v ls.length vs
  el : ∀ (i : Nat) (u : Value) (l : List Int), vs[i]? = some u → ls[i]? = some l → Ow w base u l
  apart : ∀ (i j : Nat) (u u' : Value) (k : Nat), i ≠ j → vs[i]? = some u → vs[j]? = some u' → u.ownBlock = some k → u'.ownBlock ≠ some k

/-- The blocks from base on that hold bytes, datagrams or a record layer. -/
def Old (base : Nat) (w : World) (k : Nat) : Prop := base ≤ k ∧ ∃ cs t m, w.heap[k]? = some (.cells cs t m) ∧ (t = 5 ∨ t = 26 ∨ t = 51)

def Kpo (base : Nat) (w w' : World) : Prop := Kp (Old base w) w w'

theorem Kpo.refl (base : Nat) (w : World) : Kpo base w w := Kp.refl _ w

theorem Kpo.trans {base : Nat} {a b c : World} (h : Kpo base a b) (k : Kpo base b c) : Kpo base a c :=
  Kp.trans h k fun i hi h' => Classical.byContradiction fun hn => hn (by
    obtain ⟨h1, cs, t, m, h2, h3⟩ := h'
    rw [Kp.block h i hi hn] at h2
    exact ⟨h1, cs, t, m, h2, h3⟩)

theorem Kpo.of {base : Nat} {S : Nat → Prop} {a b : World} (h : Kp S a b) (hs : ∀ i, i < a.heap.size → S i → Old base a i) : Kpo base a b := Kp.mono h hs

theorem Kpo.below {base : Nat} {a b : World} (h : Kpo base a b) (hb : base ≤ a.heap.size) : Below base a b := Kp.below h hb fun k hk ho => by have := ho.1; omega

theorem old_of_row {w : World} {base e : Nat} {v : Value} {n : Nat} {xs : List Value} (ho : w.ownsRow base e 1 v n xs) (he : e = 5 ∨ e = 26 ∨ e = 51) : ∀ k, v.ownBlock = some k → Old base w k := by
  intro k hk
  rcases ho.2 with ⟨rfl, _⟩ | ⟨g, cap, cur, rfl, hb, hg, _⟩
  · simp [Value.ownBlock] at hk
  · simp [Value.ownBlock] at hk
    subst hk
    exact ⟨hb, cur, e, (0, 0), hg, he⟩

theorem LS.old {w : World} {lb base : Nat} {ep sq : Int} (h : LS w lb ep sq) (hb : base ≤ lb) : Old base w lb := by
  obtain ⟨cs, h, _⟩ := h
  exact ⟨hb, cs, 51, (0, 0), h, .inr (.inr rfl)⟩

theorem Dgv.len {w : World} {base : Nat} {v : Value} {vs : List Value} {ls : List (List Int)} (h : Dgv w base v vs ls) : vs.length = ls.length := by simpa using h.row.1

/-- Two rows of different element types lie in different blocks. -/
theorem rows_ne {w : World} {base base' e e' : Nat} (he : e ≠ e') {v v' : Value} {n n' : Nat} {xs xs' : List Value} (h : w.ownsRow base e 1 v n xs) (h' : w.ownsRow base' e' 1 v' n' xs') : ∀ k, v.ownBlock = some k → v'.ownBlock ≠ some k := by
  intro k hk hk'
  rcases h.2 with ⟨rfl, _⟩ | ⟨g, cap, cur, rfl, _, hg, _⟩
  · simp [Value.ownBlock] at hk
  rcases h'.2 with ⟨rfl, _⟩ | ⟨g', cap', cur', rfl, _, hg', _⟩
  · simp [Value.ownBlock] at hk'
  simp [Value.ownBlock] at hk hk'
  subst hk hk'
  rw [hg] at hg'
  simp at hg'
  exact he hg'.2

/-- Nothing of a list is written. -/
theorem Dgv.kp {S : Nat → Prop} {w w' : World} {base : Nat} {v : Value} {vs : List Value} {ls : List (List Int)} (h : Dgv w base v vs ls) (hk : Kp S w w') (hv : ∀ k, v.ownBlock = some k → ¬ S k) (he : ∀ u ∈ vs, ∀ k, u.ownBlock = some k → ¬ S k) : Dgv w' base v vs ls :=
  ⟨ownsRow_kp h.row hk hv, fun i u l hu hl => ownsRow_kp (h.el i u l hu hl) hk (he u (List.mem_of_getElem? hu)), h.apart⟩

theorem Ow.form {w : World} {base : Nat} {v : Value} {zs : List Int} (h : Ow w base v zs) : ∃ so c, v = .slice so zs.length c := by
  rcases h.2 with ⟨rfl, h0⟩ | ⟨g, cap, cur, rfl, _⟩
  · exact ⟨none, 0, by rw [h0]⟩
  · exact ⟨_, cap, rfl⟩


theorem Kp.drewN {S : Nat → Prop} {a w : World} (h : Kp S a w) (n : Nat) : Kp S a (w.drewN n) := ⟨h.os, h.tape, h.output, h.size, h.block⟩

theorem Dgv.olds {w : World} {base : Nat} {v : Value} {vs : List Value} {ls : List (List Int)} (h : Dgv w base v vs ls) : ∀ u ∈ vs, ∃ l, Ow w base u l := by
  intro u hu
  obtain ⟨i, hi, rfl⟩ := List.mem_iff_getElem.1 hu
  have hl : i < ls.length := by have := h.len; omega
  exact ⟨ls[i], h.el i _ _ (List.getElem?_eq_getElem hi) (List.getElem?_eq_getElem hl)⟩

/-- A record in a new datagram, laid behind the list. -/
theorem dg_push {w w1 w2 : World} {base lb : Nat} {dv dv' v1 : Value} {vs : List Value} {ls : List (List Int)} {r : List Int} {ep sq : Int} {o : Obj} (hb : base ≤ w.heap.size) (hlb : base ≤ lb) (hls0 : LS w lb ep (sq - 1)) (hD : Dgv w base dv vs ls)
    (h1 : Ow w1 base v1 r) (hk : Kp (fun k => Value.ownBlock (.slice none 0 0) = some k ∨ k = lb) w w1) (hn : Near w (.slice none 0 0) v1) (hls : LS w1 lb ep sq)
    (ho : w2.ownsRow base 26 1 dv' (ls.length + 1) (vs ++ [v1])) (hg : (w1.alloc o).grownBy w2 dv.ownBlock) :
    Dgv w2 base dv' (vs ++ [v1]) (ls ++ [r]) ∧ Kpo base w w2 ∧ LS w2 lb ep sq := by
  have hk' : Kp (fun k => k = lb) w w1 := hk.mono (fun i _ h => by rcases h with h | h; simp [Value.ownBlock] at h; exact h)
  have hD1 : Dgv w1 base dv vs ls := hD.kp hk' (fun k hk e => hls0.ne (by decide) hD.row (by rw [← e]; exact hk)) (fun u hu k hk e => by
    obtain ⟨l, hl⟩ := hD.olds u hu
    exact hls0.ne (by decide) hl (by rw [← e]; exact hk))
  have hg' : Kp (fun k => dv.ownBlock = some k) w1 w2 := ((Kp.refl _ w1).alloc o).grown hg (fun k hk => .inl hk)
  have hlen := hD.len
  have hv1 : ∀ k, v1.ownBlock = some k → w.heap.size ≤ k := fun k hk => by rcases hn k hk with h | h; simp [Value.ownBlock] at h; exact h
  have hvs : ∀ u ∈ vs, ∀ k, u.ownBlock = some k → k < w.heap.size := fun u hu k hk => by
    obtain ⟨l, hl⟩ := hD.olds u hu
    exact (hl.lt k hk).2
  refine ⟨⟨by simpa using ho, ?_, ?_⟩, ?_, hls.kp hg' (hls.ne (by decide) hD1.row)⟩
  · intro i u l hu hl
    by_cases hi : i < vs.length
    · rw [List.getElem?_append_left hi] at hu
      rw [List.getElem?_append_left (by omega)] at hl
      have he := hD1.el i u l hu hl
      exact ownsRow_kp he hg' (fun k hk hk2 => rows_ne (by decide) he hD1.row k hk hk2)
    · rw [List.getElem?_append_right (by omega)] at hu
      rw [List.getElem?_append_right (by omega)] at hl
      have e1 := List.mem_of_getElem? hu
      have e2 := List.mem_of_getElem? hl
      simp at e1 e2
      subst e1 e2
      exact ownsRow_kp h1 hg' (fun k hk hk2 => rows_ne (by decide) h1 hD1.row k hk hk2)
  · intro i j u u' k hij hu hu' hk hk2
    by_cases hi : i < vs.length <;> by_cases hj : j < vs.length
    · rw [List.getElem?_append_left hi] at hu
      rw [List.getElem?_append_left hj] at hu'
      exact hD.apart i j u u' k hij hu hu' hk hk2
    · rw [List.getElem?_append_left hi] at hu
      rw [List.getElem?_append_right (by omega)] at hu'
      have e1 := List.mem_of_getElem? hu'
      simp at e1
      subst e1
      have := hvs u (List.mem_of_getElem? hu) k hk
      have := hv1 k hk2
      omega
    · rw [List.getElem?_append_right (by omega)] at hu
      rw [List.getElem?_append_left hj] at hu'
      have e1 := List.mem_of_getElem? hu
      simp at e1
      subst e1
      have := hvs u' (List.mem_of_getElem? hu') k hk2
      have := hv1 k hk
      omega
    · have h1 := (List.getElem?_eq_some_iff.1 hu).1
      have h2 := (List.getElem?_eq_some_iff.1 hu').1
      simp at h1 h2
      omega
  · refine Kpo.of (hk'.mono (S' := Old base w) (fun i _ h => by subst h; exact hls0.old hlb)|>.trans hg' (fun i _ h => ?_)) (fun _ _ h => h)
    exact old_of_row hD.row (.inr (.inl rfl)) i h

/-- A record laid behind the last datagram. -/
theorem dg_last {w w1 : World} {base lb g k cap : Nat} {u u1 : Value} {vs : List Value} {ls : List (List Int)} {l r : List Int} {ep sq : Int} (hb : base ≤ w.heap.size) (hlb : base ≤ lb) (hls0 : LS w lb ep (sq - 1)) (hD : Dgv w base (.slice (some ⟨g, 0, none⟩) (k + 1) cap) vs ls) (hkl : ls.length = k + 1)
    (hu : vs[k]? = some u) (hl : ls[k]? = some l)
    (h1 : Ow w1 base u1 (l ++ r)) (hk : Kp (fun j => u.ownBlock = some j ∨ j = lb) w w1) (hn : Near w u u1) (hls : LS w1 lb ep sq) :
    Dgv (w1.setCell ⟨g, k, none⟩ u1) base (.slice (some ⟨g, 0, none⟩) (k + 1) cap) (vs.set k u1) (ls.set k (l ++ r)) ∧ Kpo base w (w1.setCell ⟨g, k, none⟩ u1) ∧ LS (w1.setCell ⟨g, k, none⟩ u1) lb ep sq := by
  have hlen := hD.len
  have hou := hD.el k u l hu hl
  have hrow : w1.ownsRow base 26 1 (.slice (some ⟨g, 0, none⟩) (k + 1) cap) ls.length vs := ownsRow_kp hD.row hk (fun j hj e => by
    rcases e with e | e
    · exact rows_ne (by decide) hou hD.row j e hj
    · subst e; exact hls0.ne (by decide) hD.row hj)
  have hst := World.ownsRow.stored (by rw [hkl] at hrow; exact hrow) k u1
  have hkp : Kp (fun j => j = g) w1 (w1.setCell ⟨g, k, none⟩ u1) := (Kp.refl (fun j => j = g) w1).setCell (p := ⟨g, k, none⟩) (.inl rfl) _
  have hgb : ∀ {b2 n2 : Nat} {v2 : Value} {xs2 : List Value}, w1.ownsRow b2 5 1 v2 n2 xs2 → ∀ j, v2.ownBlock = some j → ¬ j = g := fun h j hj e => rows_ne (by decide) h hrow j hj (by subst e; rfl)
  refine ⟨⟨by simpa [hkl] using hst.1, ?_, ?_⟩, ?_, hls.kp hkp (fun e => hls.ne (by decide) hrow (by rw [e]; rfl))⟩
  · intro i v2 l2 hv hl2
    by_cases hi : i = k
    · subst hi
      rw [List.getElem?_set_self (by omega)] at hv
      rw [List.getElem?_set_self (by omega)] at hl2
      obtain rfl := Option.some.inj hv
      obtain rfl := Option.some.inj hl2
      exact ownsRow_kp h1 hkp (hgb h1)
    · rw [List.getElem?_set_ne (by omega)] at hv hl2
      have he := hD.el i v2 l2 hv hl2
      have he1 : Ow w1 base v2 l2 := ownsRow_kp he hk (fun j hj e => by
        rcases e with e | e
        · exact hD.apart k i u v2 j (by omega) hu hv e hj
        · subst e; exact hls0.ne (by decide) he hj)
      exact ownsRow_kp he1 hkp (hgb he1)
  · have key : ∀ i v2 j, i ≠ k → vs[i]? = some v2 → v2.ownBlock = some j → u1.ownBlock ≠ some j := by
      intro i v2 j hi hv hj hj1
      rcases hn j hj1 with h | h
      · exact hD.apart k i u v2 j (by omega) hu hv h hj
      · obtain ⟨l2, hl2⟩ := hD.olds v2 (List.mem_of_getElem? hv)
        have := (hl2.lt j hj).2
        omega
    intro i j v2 v3 q hij hv hv' hq hq2
    by_cases hi : i = k
    · subst hi
      rw [List.getElem?_set_self (by omega)] at hv
      obtain rfl := Option.some.inj hv
      rw [List.getElem?_set_ne hij] at hv'
      exact key j v3 q (by omega) hv' hq2 hq
    · rw [List.getElem?_set_ne (by omega)] at hv
      by_cases hj : j = k
      · subst hj
        rw [List.getElem?_set_self (by omega)] at hv'
        obtain rfl := Option.some.inj hv'
        exact key i v2 q hi hv hq hq2
      · rw [List.getElem?_set_ne (by omega)] at hv'
        exact hD.apart i j v2 v3 q hij hv hv' hq hq2
  · refine Kpo.of ((hk.mono (S' := Old base w) (fun i _ h => ?_)).trans hkp (fun i _ h => ?_)) (fun _ _ h => h)
    · rcases h with h | h
      · exact old_of_row hou (.inl rfl) i h
      · subst h; exact hls0.old hlb
    · subst h; exact old_of_row hD.row (.inr (.inl rfl)) i rfl
end Go.Proofs.Qxb6614518aDoor
