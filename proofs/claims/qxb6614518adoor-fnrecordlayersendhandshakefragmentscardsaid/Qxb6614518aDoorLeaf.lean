/-
  OURS. The leaves: appendUint24 (f25), AppendUint16 (f26), appendUint48 (f29), appendHeader (f28), record.append (f27), handshake.append (f22).
-/
import Derived.Test.Qxb6614518aDoorBase
import Derived.WalkSpells
import Derived.WalkLawsBesides
import Derived.Deep.RegionLaw
namespace Go.Proofs.Qxb6614518aDoor
open Go Go.RowKit
set_option linter.unusedVariables false
theorem Tryd.info5 : (Tryd.prog.info? 5).map (fun i => (i.zero, i.size, i.bytes)) = some (some (.int .u8 0), 1, 1) := by kernel_rfl

/-- A slice of bytes that owns its row. -/
def Ow (w : World) (base : Nat) (v : Value) (zs : List Int) : Prop := w.ownsRow base 5 1 v zs.length (zs.map (Value.int .u8))

theorem new_cells (w : World) (l : List Value) (e : TypeId) (b : Addr) (hb : some (⟨w.heap.size, 0, none⟩ : Addr) = some b) (j : Nat) (u : Value) (hu : l[j]? = some u) : (w.alloc (.cells l.toArray e)).cell? (b.add j) = some u := by
  obtain rfl := Option.some.inj hb
  have hadd : (⟨w.heap.size, 0, none⟩ : Addr).add j = ⟨w.heap.size, j, none⟩ := by unfold Addr.add; split <;> simp_all
  rw [hadd, cell_of_row _ w.heap.size j l.toArray e (0, 0) (heap_alloc_new w _)]
  simpa using hu

/-- What an append leaves, as the callers want it. -/
structure App (w w' : World) (base : Nat) (v v' : Value) (zs : List Int) : Prop where
  own : Ow w' base v' zs
  kp : Kp (fun k => v.ownBlock = some k) w w'
  near : Near w v v'

theorem app_of {w W w' : World} {base : Nat} {v v' : Value} {zs ys : List Int} {m : Nat} (hk : Kp (fun k => v.ownBlock = some k) w W) (hm : ys.length = m) (h : w'.ownsRow base 5 1 v' (zs.length + m) (zs.map (Value.int .u8) ++ ys.map (Value.int .u8))) (hg : W.grownBy w' v.ownBlock) (hn : Near W v v') :
    App w w' base v v' (zs ++ ys) := by
  refine ⟨?_, hk.grown hg (fun k hk => .inl hk), fun k hk' => ?_⟩
  · unfold Ow
    rw [List.map_append, List.length_append, hm]
    exact h
  · rcases hn k hk' with h | h
    · exact .inl h
    · have := hk.size; exact .inr (by omega)

theorem App.trans {w w1 w2 : World} {base : Nat} {v v1 v2 : Value} {zs1 zs2 : List Int} (h : App w w1 base v v1 zs1) (k : App w1 w2 base v1 v2 zs2) : App w w2 base v v2 zs2 :=
  ⟨k.own, h.kp.trans k.kp (fun i hi h' => by rcases h.near i h' with h'' | h''; exact h''; omega), h.near.trans k.near h.kp.size⟩

theorem App.pre {w W w2 : World} {base : Nat} {v v2 : Value} {zs2 : List Int} (h : Kp (fun k => v.ownBlock = some k) w W) (k : App W w2 base v v2 zs2) : App w w2 base v v2 zs2 :=
  ⟨k.own, h.trans k.kp (fun _ _ h' => h'), (Near.refl w v).trans k.near h.size⟩

/-- What lies in a block of ours (no row that is appended to) stays. -/
theorem App.cells {w w1 : World} {base : Nat} {v v1 : Value} {zs1 : List Int} (h : App w w1 base v v1 zs1) {b : Nat} (hb : b < w.heap.size) (hv : v.ownBlock ≠ some b) : ∀ j, w1.cell? ⟨b, j, none⟩ = w.cell? ⟨b, j, none⟩ :=
  fun j => h.kp.cell (p := ⟨b, j, none⟩) hb hv

theorem Ow.lt {w : World} {base : Nat} {v : Value} {zs : List Int} (h : Ow w base v zs) : ∀ k, v.ownBlock = some k → base ≤ k ∧ k < w.heap.size := World.ownsRow.lt h

theorem Ow.ne {w : World} {base : Nat} {v : Value} {zs : List Int} (h : Ow w base v zs) {b : Nat} (hb : w.heap.size ≤ b) : v.ownBlock ≠ some b := fun e => by have := (h.lt b e).2; omega

theorem Ow.alloc {w : World} {base : Nat} {v : Value} {zs : List Int} (h : Ow w base v zs) (o : Obj) : Ow (w.alloc o) base v zs := World.ownsRow.alloc h o

theorem near_ne {w : World} {v v1 : Value} (h : Near w v v1) {b : Nat} (hb : b < w.heap.size) (hv : v.ownBlock ≠ some b) : v1.ownBlock ≠ some b := fun e => by
  rcases h b e with h' | h'
  · exact hv h'
  · omega

def b16 (x : Int) : List Int := [x / 256, x % 256]
def b24 (x : Int) : List Int := [x / 65536 % 256, x / 256 % 256, x % 256]
def b48 (x : Int) : List Int := [x / 1099511627776 % 256, x / 4294967296 % 256, x / 16777216 % 256, x / 65536 % 256, x / 256 % 256, x % 256]
set_option maxHeartbeats 400000 in
theorem u24_any (v : Value) (x : Int) (zs : List Int) (w : World) (base : Nat) (how : Ow w base v zs) (hb : base ≤ w.heap.size) (hl : zs.length ≤ 1073741824) (hx0 : 0 ≤ x) (hx1 : x ≤ 4294967295) :
    Calls Tryd.prog 25 #[v, .int .u32 x] w fun e w' => ∃ v', e = .returned v' ∧ App w w' base v v' (zs ++ b24 x) := by
  obtain ⟨i0, hi, hz0, hz1, hz2⟩ := info_parts Tryd.info5
  have how' : Hid (Ow w base v zs) := how
  clear how
  go_enter Tryd.func25, Tryd.ntmps25
  go_wp2_with (at_builtin; refine wpList_append_near _ rfl _ _ 26 rfl base 5 i0 (.int .u8 0) 1 Tryd.underlying26 hi hz0 hz1 hz2 rfl v zs.length _ rfl (World.ownsRow.alloc how'.out _) (some ⟨w.heap.size, 0, none⟩) 3 3 ((b24 x).map (Value.int .u8)) rfl rfl (by simp) ?c1 ?c2 ?c3 ?c4 ?c5 ?_)
  case c1 => exact fun b hb j u hu => new_cells w _ 5 b hb j u hu
  case c2 => exact ints_oneCell _ _
  case c3 => omega
  case c4 => unfold maxLen; omega
  case c5 => simp; omega
  intro v' w' h1 h2 h3
  have hA := app_of (ys := b24 x) ((Kp.refl _ w).alloc _) rfl h1 h2 h3
  clear h1 h2 h3
  go_wp2
  go_ret
  exact ⟨v', rfl, hA⟩

set_option maxHeartbeats 400000 in
theorem u48_any (v : Value) (x : Int) (zs : List Int) (w : World) (base : Nat) (how : Ow w base v zs) (hb : base ≤ w.heap.size) (hl : zs.length ≤ 1073741824) (hx0 : 0 ≤ x) (hx1 : x ≤ 18446744073709551615) :
    Calls Tryd.prog 29 #[v, .int .u64 x] w fun e w' => ∃ v', e = .returned v' ∧ App w w' base v v' (zs ++ b48 x) := by
  obtain ⟨i0, hi, hz0, hz1, hz2⟩ := info_parts Tryd.info5
  have how' : Hid (Ow w base v zs) := how
  clear how
  go_enter Tryd.func29, Tryd.ntmps29
  go_wp2_with (at_builtin; refine wpList_append_near _ rfl _ _ 26 rfl base 5 i0 (.int .u8 0) 1 Tryd.underlying26 hi hz0 hz1 hz2 rfl v zs.length _ rfl (World.ownsRow.alloc how'.out _) (some ⟨w.heap.size, 0, none⟩) 6 6 ((b48 x).map (Value.int .u8)) rfl rfl (by simp) ?c1 ?c2 ?c3 ?c4 ?c5 ?_)
  case c1 => exact fun b hb j u hu => new_cells w _ 5 b hb j u hu
  case c2 => exact ints_oneCell _ _
  case c3 => omega
  case c4 => unfold maxLen; omega
  case c5 => simp; omega
  intro v' w' h1 h2 h3
  have hA := app_of (ys := b48 x) ((Kp.refl _ w).alloc _) rfl h1 h2 h3
  clear h1 h2 h3
  go_wp2
  go_ret
  exact ⟨v', rfl, hA⟩

set_option maxHeartbeats 400000 in
theorem u16_any (v : Value) (x : Int) (zs : List Int) (w : World) (base : Nat) (how : Ow w base v zs) (hb : base ≤ w.heap.size) (hl : zs.length ≤ 1073741824) (hx0 : 0 ≤ x) (hx1 : x ≤ 65535) :
    Calls Tryd.prog 26 #[.agg #[], v, .int .u16 x] w fun e w' => ∃ v', e = .returned v' ∧ App w w' base v v' (zs ++ b16 x) := by
  obtain ⟨i0, hi, hz0, hz1, hz2⟩ := info_parts Tryd.info5
  have how' : Hid (Ow w base v zs) := how
  clear how
  go_enter Tryd.func26, Tryd.ntmps26
  go_wp2_with (at_builtin; refine wpList_append_near _ rfl _ _ 26 rfl base 5 i0 (.int .u8 0) 1 Tryd.underlying26 hi hz0 hz1 hz2 rfl v zs.length _ rfl (World.ownsRow.alloc (World.ownsRow.alloc how'.out _) _) (some ⟨w.heap.size + 1, 0, none⟩) 2 2 ((b16 x).map (Value.int .u8)) rfl rfl (by simp) ?c1 ?c2 ?c3 ?c4 ?c5 ?_)
  case c1 => exact fun b hb j u hu => new_cells (w.alloc _) _ 5 b (by simpa using hb) j u hu
  case c2 => exact ints_oneCell _ _
  case c3 => omega
  case c4 => unfold maxLen; omega
  case c5 => simp; omega
  intro v' w' h1 h2 h3
  have hA := app_of (ys := b16 x) (((Kp.refl _ w).alloc _).alloc _) rfl h1 h2 h3
  clear h1 h2 h3
  go_wp2
  go_ret
  exact ⟨v', rfl, hA⟩


/-- A box laid just ahead stays as it was laid. -/
theorem App.box {w w1 : World} {cs : Array Value} {e : TypeId} {base : Nat} {v v1 : Value} {zs1 : List Int} (h : App (w.alloc (.cells cs e)) w1 base v v1 zs1) (hv : v.ownBlock ≠ some w.heap.size) (j : Nat) : w1.cell? ⟨w.heap.size, j, none⟩ = cs[j]? := by
  rw [h.cells (b := w.heap.size) (by simp) hv j, cell_of_row _ w.heap.size j cs e (0, 0) (heap_alloc_new w _)]

set_option maxHeartbeats 400000 in
theorem hdr_any (v : Value) (ep sq n : Int) (so : Option Addr) (m c : Nat) (zs : List Int) (w : World) (base : Nat) (how : Ow w base v zs) (hb : base ≤ w.heap.size) (hl : zs.length ≤ 1073741000) (he0 : 0 ≤ ep) (he1 : ep ≤ 18446744073709551615) (hs0 : 0 ≤ sq) (hs1 : sq ≤ 18446744073709551615) (hn0 : 0 ≤ n) (hn1 : n ≤ 65535) :
    Calls Tryd.prog 28 #[.agg #[.int .u8 22, .int .u16 65277, .int .u64 ep, .int .u64 sq, .slice so m c, .slice none 0 0], v, .int .i64 n] w fun e w' => ∃ v', e = .returned v' ∧ App w w' base v v' (zs ++ [22] ++ b16 65277 ++ b16 (ep % 65536) ++ b48 sq ++ b16 n) := by
  obtain ⟨i0, hi, hz0, hz1, hz2⟩ := info_parts Tryd.info5
  have hne := how.ne (Nat.le_refl _)
  have how' : Hid (Ow w base v zs) := how
  clear how
  have hne' : Hid (v.ownBlock ≠ some w.heap.size) := hne
  clear hne
  go_enter Tryd.func28, Tryd.ntmps28
  go_wp2_with (at_builtin; refine wpList_append_near _ rfl _ _ 26 rfl base 5 i0 (.int .u8 0) 1 Tryd.underlying26 hi hz0 hz1 hz2 rfl v zs.length _ rfl (World.ownsRow.alloc (World.ownsRow.alloc how'.out _) _) (some ⟨w.heap.size + 1, 0, none⟩) 1 1 (([22] : List Int).map (Value.int .u8)) rfl rfl (by simp) ?c1 ?c2 ?c3 ?c4 ?c5 ?_)
  case c1 => exact fun b hb j u hu => new_cells (w.alloc _) _ 5 b (by simpa using hb) j u hu
  case c2 => exact ints_oneCell _ _
  case c3 => omega
  case c4 => unfold maxLen; omega
  case c5 => simp; omega
  intro v1 w1 h1 h2 h3
  have A1 := app_of (ys := [22]) ((Kp.refl _ (w.alloc _)).alloc _) rfl h1 h2 h3
  clear h1 h2 h3
  have c1 : w1.cell? ⟨w.heap.size, 1, none⟩ = some (.int .u16 65277) := A1.box hne'.out 1
  have hz1 := A1.kp.size
  simp only [World.size_alloc] at hz1
  go_wp2_with fail
  refine (u16_any v1 65277 _ w1 base A1.own (by omega) (by simp; omega) (by decide) (by decide)).mono ?_
  rintro e w2 ⟨v2, rfl, A2⟩
  replace A2 := A1.trans A2
  clear A1 c1 hz1
  have c2 : w2.cell? ⟨w.heap.size, 2, none⟩ = some (.int .u64 ep) := A2.box hne'.out 2
  have hz2 := A2.kp.size
  simp only [World.size_alloc] at hz2
  go_wp2_with fail
  refine (u16_any v2 (ep % 65536) _ w2 base A2.own (by omega) (by simp [b16]; omega) (by omega) (by omega)).mono ?_
  rintro e w3 ⟨v3, rfl, A3⟩
  replace A3 := A2.trans A3
  clear A2 c2 hz2
  have c3 : w3.cell? ⟨w.heap.size, 3, none⟩ = some (.int .u64 sq) := A3.box hne'.out 3
  have hz3 := A3.kp.size
  simp only [World.size_alloc] at hz3
  go_wp2_with fail
  refine (u48_any v3 sq _ w3 base A3.own (by omega) (by simp [b16]; omega) hs0 hs1).mono ?_
  rintro e w4 ⟨v4, rfl, A4⟩
  replace A4 := A3.trans A4
  clear A3 c3 hz3
  have hz4 := A4.kp.size
  simp only [World.size_alloc] at hz4
  go_wp2_with fail
  refine (u16_any v4 n _ w4 base A4.own (by omega) (by simp [b16, b48]; omega) (by omega) (by omega)).mono ?_
  rintro e w5 ⟨v5, rfl, A5⟩
  replace A5 := A4.trans A5
  clear A4 hz4
  go_wp2
  go_ret
  exact ⟨v5, rfl, App.pre ((Kp.refl _ w).alloc _) A5⟩
end Go.Proofs.Qxb6614518aDoor
