import Derived.Test.Qxb6614518aDoorLeaf
import Derived.Deep.RegionHeldLaw
namespace Go.Proofs.Qxb6614518aDoor
open Go Go.RowKit
set_option linter.unusedVariables false

/-- append as one step of a region that draws. -/
theorem step_append_near {P : Program} {ops : Array Oper} {o : Oper} {a : Act} {w : World} {K : Act → World → Prop} {Q : Exit → Act → World → Prop} {E : Prop}
    (hgd : o.guard = none) (s x : Operand) (t : TypeId) (ho : o.op = .call { callee := .builtin .append, args := #[s, x], argTypes := #[t, t] })
    (base : Nat) (e : TypeId) (i : TypeInfo) (z : Value) (bytes : Nat) (ht : P.underlying t = some (.slice e)) (hi : P.info? e = some i) (hz : i.zero = some z)
    (hsize : i.size = 1) (hby : i.bytes = bytes) (hzs : z.cells.size = 1)
    (v : Value) (n : Nat) (xs : List Value) (hs : a.eval s = v) (hown : w.ownsRow base e 1 v n xs)
    (so : Option Addr) (m c : Nat) (news : List Value) (hx : a.eval x = .slice so m c) (hl : news.length = m) (hnone : so = none → m = 0 ∧ c = 0)
    (hnews : ∀ b, so = some b → ∀ j u, news[j]? = some u → w.cell? (b.add j) = some u) (h1 : ∀ u ∈ news, u.oneCell' = true)
    (hbytes : (n + m) * bytes ≤ 140737488355328) (h63 : n + m ≤ maxLen) (hbase : base ≤ w.heap.size)
    (h : ∀ v' w', w'.ownsRow base e 1 v' (n + m) (xs ++ news) → w.grownBy w' v.ownBlock → Near w v v' → K (a.put o.dst v') w') :
    if Region.wanted o (yielded ops a.tmps) = true then Oper.wp P o a w K Q else E := by
  have hw : Region.wanted o (yielded ops a.tmps) = true := by simp [Region.wanted, hgd]
  rw [if_pos hw]
  obtain ⟨v', w', hr, h2, h3, h4⟩ := run_append_near (P := P) w base t o.type e i z bytes ht hi hz hsize hby hzs v n xs hown so m c news hl hnone hnews h1 hbytes h63 hbase
  unfold Oper.wp execOp
  simp only [ho, resolve, invoke, builtin, Sem.run_bind, Sem.run_pure, Result.andThen_ok, List.map_toArray, List.map_cons, List.map_nil, hs, hx, hr]
  exact h v' w' h2 h3 h4

/-- A slice of bytes that is only read. -/
structure Src (w : World) (so : Option Addr) (m c : Nat) (ys : List Int) : Prop where
  len : ys.length = m
  none : so = none → m = 0 ∧ c = 0
  cells : ∀ a, so = some a → ∀ j z, ys[j]? = some z → w.cell? (a.add j) = some (.int .u8 z)

theorem add_block (a : Addr) (j : Nat) : (a.add j).block = a.block := by unfold Addr.add; split <;> rfl

theorem Src.kp {w w' : World} {S : Nat → Prop} {so : Option Addr} {m c : Nat} {ys : List Int} (h : Src w so m c ys) (hk : Kp S w w') (hn : ∀ a, so = some a → ¬ S a.block) : Src w' so m c ys :=
  ⟨h.len, h.none, fun a ha j z hz => by
    have hc := h.cells a ha j z hz
    rw [hk.cell (by exact World.block_lt_of_cell? w _ hc) (by rw [add_block]; exact hn a ha)]; exact hc⟩

theorem Src.vals {w : World} {so : Option Addr} {m c : Nat} {ys : List Int} (h : Src w so m c ys) : ∀ b, so = some b → ∀ j u, (ys.map (Value.int .u8))[j]? = some u → w.cell? (b.add j) = some u := by
  intro b hb j u hu
  rw [List.getElem?_map, Option.map_eq_some_iff] at hu
  obtain ⟨z, hz, rfl⟩ := hu
  exact h.cells b hb j z hz

/-- record.append: header, then the fragment. -/
def rec1 (ep sq : Int) (ys : List Int) : List Int := [22] ++ b16 65277 ++ b16 (ep % 65536) ++ b48 sq ++ b16 ys.length ++ ys

set_option maxHeartbeats 1000000 in
theorem rapp_any (v : Value) (ep sq : Int) (so : Option Addr) (m c : Nat) (zs ys : List Int) (w : World) (base : Nat) (how : Ow w base v zs) (hb : base ≤ w.heap.size) (hl : zs.length ≤ 1073740000) (he0 : 0 ≤ ep) (he1 : ep ≤ 18446744073709551615) (hs0 : 0 ≤ sq) (hs1 : sq ≤ 18446744073709551615)
    (hsrc : Src w so m c ys) (hoff : ∀ a, so = some a → ¬ v.ownBlock = some a.block) (hm : m ≤ 65535) :
    Calls Tryd.prog 27 #[.agg #[.int .u8 22, .int .u16 65277, .int .u64 ep, .int .u64 sq, .slice so m c, .slice none 0 0], v] w fun e w' => ∃ v', e = .returned v' ∧ App w w' base v v' (zs ++ rec1 ep sq ys) := by
  obtain ⟨i0, hi, hz0, hz1, hz2⟩ := info_parts Tryd.info5
  have hne' : Hid (v.ownBlock ≠ some w.heap.size) := how.ne (Nat.le_refl _)
  have how' : Hid (Ow w base v zs) := how
  have hsrc' : Hid (Src w so m c ys) := hsrc
  have hoff' : Hid (∀ a, so = some a → ¬ v.ownBlock = some a.block) := hoff
  have hml : Hid (ys.length = m) := hsrc.len
  clear how hsrc hoff
  go_enter Tryd.func27, Tryd.ntmps27
  go_wp2_with fail
  go_region_held_law (fun w' => w'.cell? ⟨w.heap.size, 0, none⟩ = some (.int .u8 22) ∧ w'.cell? ⟨w.heap.size, 1, none⟩ = some (.int .u16 65277) ∧ w'.cell? ⟨w.heap.size, 2, none⟩ = some (.int .u64 ep) ∧ w'.cell? ⟨w.heap.size, 3, none⟩ = some (.int .u64 sq) ∧ w'.cell? ⟨w.heap.size, 4, none⟩ = some (.slice so m c) ∧ w'.cell? ⟨w.heap.size, 5, none⟩ = some (.slice none 0 0))
    (first | go_keep | (exact ⟨A1.box hne'.out 0, A1.box hne'.out 1, A1.box hne'.out 2, A1.box hne'.out 3, A1.box hne'.out 4, A1.box hne'.out 5⟩) | (exact ⟨A2.box hne'.out 0, A2.box hne'.out 1, A2.box hne'.out 2, A2.box hne'.out 3, A2.box hne'.out 4, A2.box hne'.out 5⟩))
    (first
    | (refine step_append_near rfl (.tmp 10) (.tmp 12) 26 rfl base 5 i0 (.int .u8 0) 1 Tryd.underlying26 hi hz0 hz1 hz2 rfl v1 _ _ rfl A1.own so m c (ys.map (Value.int .u8)) rfl (by rw [List.length_map]; exact hml.out) hsrc'.out.none (Src.vals ((hsrc'.out.kp ((Kp.refl (fun k => v.ownBlock = some k) w).alloc _) hoff'.out).kp A1.kp hoff'.out)) (ints_oneCell _ _) (by simp [b16, b48]; omega) (by simp [b16, b48, maxLen]; omega) (by have := A1.kp.size; simp at this; omega) ?_; intro v2 w2 q1 q2 q3; have A2 := App.trans A1 (app_of (Kp.refl _ w1) hml.out q1 q2 q3); clear q1 q2 q3)
    | (go_at_call 28; refine (hdr_any v ep sq m so m c zs _ base ?_ ?_ ?_ he0 he1 hs0 hs1 ?_ ?_).mono ?_; exact World.ownsRow.drew (World.ownsRow.alloc how'.out _); (simp; omega); omega; omega; omega; rintro e w1 ⟨v1, rfl, A1'⟩; have A1 := App.pre ((Kp.refl (fun k => v.ownBlock = some k) (w.alloc (.cells #[.int .u8 22, .int .u16 65277, .int .u64 ep, .int .u64 sq, .slice so m c, .slice none 0 0] 72))).drew) A1'; clear A1'))
  have e : zs ++ rec1 ep sq ys = zs ++ [22] ++ b16 65277 ++ b16 (ep % 65536) ++ b48 sq ++ b16 (m : Int) ++ ys := by simp [rec1, hml.out]
  have AF : App w w2 base v v2 (zs ++ rec1 ep sq ys) := by
    rw [e]
    exact App.pre ((Kp.refl _ w).alloc _) A2
  clear A1 A2 e
  go_wp2
  go_ret
  exact ⟨v2, by simp, AF⟩

/-- handshake.append: header, then the body's part. -/
def hs1 (ty ln ms of : Int) (ys : List Int) : List Int := [ty] ++ b24 ln ++ b16 ms ++ b24 of ++ b24 ys.length ++ ys

set_option maxHeartbeats 1000000 in
theorem happ_any (v : Value) (ty ln ms of : Int) (so : Option Addr) (m c : Nat) (zs ys : List Int) (w : World) (base : Nat) (how : Ow w base v zs) (hb : base ≤ w.heap.size) (hl : zs.length ≤ 1073740000)
    (t0 : 0 ≤ ty) (t1 : ty ≤ 255) (l0 : 0 ≤ ln) (l1 : ln ≤ 4294967295) (s0 : 0 ≤ ms) (s1 : ms ≤ 65535) (o0 : 0 ≤ of) (o1 : of ≤ 4294967295)
    (hsrc : Src w so m c ys) (hoff : ∀ a, so = some a → ¬ v.ownBlock = some a.block) (hm : m ≤ 1048576) :
    Calls Tryd.prog 22 #[.agg #[.int .u8 ty, .int .u32 ln, .int .u16 ms, .int .u32 of, .slice so m c], v] w fun e w' => ∃ v', e = .returned v' ∧ App w w' base v v' (zs ++ hs1 ty ln ms of ys) := by
  obtain ⟨i0, hi, hz0, hz1, hz2⟩ := info_parts Tryd.info5
  have hne' : Hid (v.ownBlock ≠ some w.heap.size) := how.ne (Nat.le_refl _)
  have how' : Hid (Ow w base v zs) := how
  have hsrc' : Hid (Src w so m c ys) := hsrc
  have hoff' : Hid (∀ a, so = some a → ¬ v.ownBlock = some a.block) := hoff
  have hml : Hid (ys.length = m) := hsrc.len
  clear how hsrc hoff
  go_enter Tryd.func22, Tryd.ntmps22
  go_wp2_with (at_builtin; refine wpList_append_near _ rfl _ _ 26 rfl base 5 i0 (.int .u8 0) 1 Tryd.underlying26 hi hz0 hz1 hz2 rfl v zs.length _ rfl (World.ownsRow.alloc (World.ownsRow.alloc how'.out _) _) (some ⟨w.heap.size + 1, 0, none⟩) 1 1 (([ty] : List Int).map (Value.int .u8)) rfl rfl (by simp) ?c1 ?c2 ?c3 ?c4 ?c5 ?_)
  case c1 => exact fun b hb j u hu => new_cells (w.alloc _) _ 5 b (by simpa using hb) j u hu
  case c2 => exact ints_oneCell _ _
  case c3 => omega
  case c4 => unfold maxLen; omega
  case c5 => simp; omega
  intro v1 w1 h1 h2 h3
  have A1 := app_of (ys := [ty]) ((Kp.refl _ (w.alloc _)).alloc _) rfl h1 h2 h3
  clear h1 h2 h3
  have c1 : w1.cell? ⟨w.heap.size, 1, none⟩ = some (.int .u32 ln) := A1.box hne'.out 1
  have hz1 := A1.kp.size
  simp only [World.size_alloc] at hz1
  go_wp2_with fail
  refine (u24_any v1 ln _ w1 base A1.own (by omega) (by simp; omega) l0 l1).mono ?_
  rintro e w2 ⟨v2, rfl, A2⟩
  replace A2 := A1.trans A2
  clear A1 c1 hz1
  have c2 : w2.cell? ⟨w.heap.size, 2, none⟩ = some (.int .u16 ms) := A2.box hne'.out 2
  have hz2 := A2.kp.size
  simp only [World.size_alloc] at hz2
  go_wp2_with fail
  refine (u16_any v2 ms _ w2 base A2.own (by omega) (by simp [b24]; omega) s0 s1).mono ?_
  rintro e w3 ⟨v3, rfl, A3⟩
  replace A3 := A2.trans A3
  clear A2 c2 hz2
  have c3 : w3.cell? ⟨w.heap.size, 3, none⟩ = some (.int .u32 of) := A3.box hne'.out 3
  have hz3 := A3.kp.size
  simp only [World.size_alloc] at hz3
  go_wp2_with fail
  refine (u24_any v3 of _ w3 base A3.own (by omega) (by simp [b16, b24]; omega) o0 o1).mono ?_
  rintro e w4 ⟨v4, rfl, A4⟩
  replace A4 := A3.trans A4
  clear A3 c3 hz3
  have c4 : w4.cell? ⟨w.heap.size, 4, none⟩ = some (.slice so m c) := A4.box hne'.out 4
  have hz4 := A4.kp.size
  simp only [World.size_alloc] at hz4
  go_wp2_with fail
  refine (u24_any v4 m _ w4 base A4.own (by omega) (by simp [b16, b24]; omega) (by omega) (by omega)).mono ?_
  rintro e w5 ⟨v5, rfl, A5⟩
  replace A5 := A4.trans A5
  clear A4 c4 hz4
  have c5 : w5.cell? ⟨w.heap.size, 4, none⟩ = some (.slice so m c) := A5.box hne'.out 4
  have hLl : (zs ++ [ty] ++ b24 ln ++ b16 ms ++ b24 of ++ b24 (m : Int)).length ≤ 1073741000 := by simp [b16, b24]; omega
  generalize hL : zs ++ [ty] ++ b24 ln ++ b16 ms ++ b24 of ++ b24 (m : Int) = L at A5 hLl
  have HL := hide hL
  clear hL
  have hz5 := A5.kp.size
  simp only [World.size_alloc] at hz5
  go_wp2_with (at_builtin; refine wpList_append_near _ rfl _ _ 26 rfl base 5 i0 (.int .u8 0) 1 Tryd.underlying26 hi hz0 (by assumption) (by assumption) rfl v5 _ _ rfl A5.own so m c (ys.map (Value.int .u8)) rfl (by rw [List.length_map]; exact hml.out) hsrc'.out.none ?d1 ?d2 ?d3 ?d4 ?d5 ?_)
  case d1 => exact Src.vals ((hsrc'.out.kp ((Kp.refl (fun k => v.ownBlock = some k) w).alloc _) hoff'.out).kp A5.kp hoff'.out)
  case d2 => exact ints_oneCell _ _
  case d3 => omega
  case d4 => unfold maxLen; omega
  case d5 => omega
  intro v6 w6 q1 q2 q3
  have A6 := App.trans A5 (app_of (Kp.refl _ w5) hml.out q1 q2 q3)
  have e : zs ++ hs1 ty ln ms of ys = zs ++ [ty] ++ b24 ln ++ b16 ms ++ b24 of ++ b24 (m : Int) ++ ys := by simp [hs1, hml.out]
  have AF : App w w6 base v v6 (zs ++ hs1 ty ln ms of ys) := by
    rw [e, unhide HL]
    exact App.pre ((Kp.refl _ w).alloc _) A6
  clear q1 q2 q3 A5 c5 hz5 A6 e
  go_wp2
  go_ret
  exact ⟨v6, rfl, AF⟩
end Go.Proofs.Qxb6614518aDoor
