/-
  OURS. recordLayer.sendHandshake (f16), the three doors (f8, f9, f10).
-/
import Derived.Test.Qxb6614518aDoorLoop0
namespace Go.Proofs.Qxb6614518aDoor
open Go Go.RowKit
set_option linter.unusedVariables false

theorem Sent.pre {M : Msg} {ref : List (List Int)} {base lb eT : Nat} {ea : Addr} {w W : World} {e : Ending} {w' : World} (hk : Kpo base w W) (h : Sent M ref base lb eT ea W e w') : Sent M ref base lb eT ea w e w' := by
  obtain ⟨dv', vs', k, er, h1, h2, h3, h4, h5⟩ := h
  exact ⟨dv', vs', k, er, h1, h2, h3, hk.trans h4, h5⟩

/-- What a message must be. -/
structure Msg.ok (M : Msg) : Prop where
  he0 : 0 ≤ M.ep
  he1 : M.ep ≤ 18446744073709551615
  hs0 : 0 ≤ M.sq
  t0 : 0 ≤ M.ty
  t1 : M.ty ≤ 255
  l0 : 0 ≤ M.ln
  l1 : M.ln ≤ 4294967295
  m0 : 0 ≤ M.ms
  m1 : M.ms ≤ 65535
  len : M.body.length ≤ 1048576

/-- The world ahead of a call of sendHandshake. -/
structure Ready (M : Msg) (ref : List (List Int)) (w : World) (base lb : Nat) (dv : Value) (vs : List Value) (fso : Option Addr) (L eT : Nat) (ea : Addr) : Prop where
  ok : M.ok
  dg : Dgv w base dv vs ref
  few : ref.length ≤ 65536
  each : ∀ l ∈ ref, l.length ≤ 140737488355328
  hb : base ≤ w.heap.size
  hlb : base ≤ lb
  ls : LS w lb M.ep M.sq
  src : Src w fso L L M.body
  head : 0 < L → ∃ fb, fso = some ⟨fb, 0, none⟩ ∧ fb < base
  ev : w.cell? ⟨1, 0, none⟩ = some (.iface eT (.pointer (some ea)))
  hb1 : 1 < base

theorem Ready.quiet {M : Msg} {ref : List (List Int)} {w W : World} {base lb : Nat} {dv : Value} {vs : List Value} {fso : Option Addr} {L eT : Nat} {ea : Addr} (h : Ready M ref w base lb dv vs fso L eT ea) (hk : Kp (fun _ => False) w W) : Ready M ref W base lb dv vs fso L eT ea :=
  ⟨h.ok, h.dg.kp hk (fun _ _ h => h) (fun _ _ _ _ h => h), h.few, h.each, Nat.le_trans h.hb hk.size, h.hlb, h.ls.kp hk (fun h => h), h.src.kp hk (fun _ _ h => h), h.head, by
    rw [hk.cell (p := ⟨1, 0, none⟩) (by have := h.hb1; have := h.hb; show 1 < w.heap.size; omega) (fun h => h)]; exact h.ev, h.hb1⟩

theorem sh_any {M : Msg} {ref : List (List Int)} {w : World} {base lb : Nat} {dv : Value} {vs : List Value} {fso : Option Addr} {L eT : Nat} {ea : Addr} (h : Ready M ref w base lb dv vs fso L eT ea) (of : Int) :
    Calls Tryd.prog 19 #[.pointer (some ⟨lb, 0, none⟩), dv, .agg #[.int .u8 M.ty, .int .u32 M.ln, .int .u16 M.ms, .int .u32 of, .slice fso L L]] w (Sent M ref base lb eT ea w) := by
  have hl := h.src.len
  by_cases h0 : 0 < L
  · obtain ⟨fb, hfs, hfb⟩ := h.head h0
    have hs := h.src
    subst hfs
    exact sh_pos M ref lb fb L of dv vs w base L hl h0 (by have := h.ok.len; omega) (Nat.le_refl _) h.dg h.few h.each h.hb h.hlb h.ls h.ok.he0 h.ok.he1 h.ok.hs0 h.ok.t0 h.ok.t1 h.ok.l0 h.ok.l1 h.ok.m0 h.ok.m1 hs hfb eT ea h.ev h.hb1
  · obtain rfl : L = 0 := by omega
    exact sh_zero M ref lb fso of dv vs w base (List.eq_nil_of_length_eq_zero hl) h.dg h.few h.each h.hb h.hlb h.ls h.ok.he0 h.ok.he1 h.ok.hs0 h.ok.t0 h.ok.t1 h.ok.l0 h.ok.l1 h.ok.m0 h.ok.m1 eT ea h.ev h.hb1

set_option maxRecDepth 100000 in
set_option maxHeartbeats 1000000 in
theorem rl_any {M : Msg} {ref : List (List Int)} {w : World} {base lb : Nat} {dv : Value} {vs : List Value} {fso : Option Addr} {L eT : Nat} {ea : Addr} (h : Ready M ref w base lb dv vs fso L eT ea) (of : Int) :
    Calls Tryd.prog 16 #[.pointer (some ⟨lb, 0, none⟩), dv, .agg #[.int .u8 M.ty, .int .u32 M.ln, .int .u16 M.ms, .int .u32 of, .slice fso L L]] w (Sent M ref base lb eT ea w) := by
  have H := hide h
  clear h
  go_enter Tryd.func16, Tryd.ntmps16
  go_wp2_with fail
  go_region_held_law (fun w' => w'.cell? ⟨w.heap.size, 0, none⟩ = some (.int .u8 M.ty) ∧ w'.cell? ⟨w.heap.size, 1, none⟩ = some (.int .u32 M.ln) ∧ w'.cell? ⟨w.heap.size, 2, none⟩ = some (.int .u16 M.ms) ∧ w'.cell? ⟨w.heap.size, 3, none⟩ = some (.int .u32 of) ∧ w'.cell? ⟨w.heap.size, 4, none⟩ = some (.slice fso L L))
    (first | go_keep | (exact ⟨HB 0, HB 1, HB 2, HB 3, HB 4⟩))
    ((go_at_call 19; refine (sh_any (H.out.quiet (((Kp.refl _ w).alloc _).drew)) of).mono ?_; rintro e w1 ⟨dv', vs', k, er, rfl, h2, h3, h4, h5⟩; have HB := fun j => Kpo.other h4 (show ((w.alloc (.cells #[.int .u8 M.ty, .int .u32 M.ln, .int .u16 M.ms, .int .u32 of, .slice fso L L] 55)).drew).heap[w.heap.size]? = _ from heap_alloc_new w _) (by decide) j; have F := hide (show Sent M ref base lb eT ea w (.returned (.tuple #[dv', er])) w1 from Sent.pre (Kpo.of (((Kp.refl (fun _ => False) w).alloc _).drew) (fun _ _ h => h.elim)) ⟨dv', vs', k, er, rfl, h2, h3, h4, h5⟩); clear h2 h3 h4 h5))
  go_wp2
  go_ret2
  exact F.out

set_option maxRecDepth 100000 in
set_option maxHeartbeats 1000000 in
theorem door_any {M : Msg} {ref : List (List Int)} {w : World} {base lb : Nat} {dv : Value} {vs : List Value} {fso : Option Addr} {L eT : Nat} {ea : Addr} (h : Ready M ref w base lb dv vs fso L eT ea) (of : Int) :
    Calls Tryd.prog 9 #[.pointer (some ⟨lb, 0, none⟩), dv, .int .u8 M.ty, .int .u32 M.ln, .int .u16 M.ms, .int .u32 of, .slice fso L L] w (Sent M ref base lb eT ea w) := by
  have H := hide h
  clear h
  go_enter Tryd.func9, Tryd.ntmps9
  go_wp2_with fail
  refine (rl_any H.out of).mono ?_
  rintro e w1 ⟨dv', vs', k, er, rfl, h2⟩
  have F := hide (show Sent M ref base lb eT ea w (.returned (.tuple #[dv', er])) w1 from ⟨dv', vs', k, er, rfl, h2⟩)
  clear h2
  go_wp2
  go_ret2
  exact F.out

set_option maxHeartbeats 1000000 in
theorem new_any (ep sq : Int) (w : World) :
    Calls Tryd.prog 8 #[.int .u64 ep, .int .u64 sq] w fun e w' => e = .returned (.pointer (some ⟨w.heap.size, 0, none⟩)) ∧ LS w' w.heap.size ep sq ∧ Kp (fun _ => False) w w' := by
  have F : ∀ cs : Array Value, cs[0]? = some (.int .u64 ep) → cs[1]? = some (.int .u64 sq) → cs[2]? = some .nilIface → LS (w.alloc (.cells cs 51)) w.heap.size ep sq ∧ Kp (fun _ => False) w (w.alloc (.cells cs 51)) := fun cs h0 h1 h2 => ⟨⟨cs, heap_alloc_new w _, h0, h1, h2⟩, (Kp.refl _ w).alloc _⟩
  have F' := hide F
  clear F
  go_enter Tryd.func8, Tryd.ntmps8
  go_wp2
  go_ret
  exact ⟨rfl, F'.out _ rfl rfl rfl⟩

set_option maxHeartbeats 1000000 in
theorem seq_any (lb : Nat) (ep sq : Int) (w : World) (h : LS w lb ep sq) :
    Calls Tryd.prog 10 #[.pointer (some ⟨lb, 0, none⟩)] w fun e w' => e = .returned (.int .u64 sq) ∧ w = w' := by
  have c1 := h.cell1
  clear h
  go_enter Tryd.func10, Tryd.ntmps10
  go_wp2
  go_ret
  exact ⟨rfl, rfl⟩
end Go.Proofs.Qxb6614518aDoor
