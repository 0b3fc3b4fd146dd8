/-
  OURS. send (f21): a new datagram; behind the last; the numbers used up.
-/
import Derived.Test.Qxb6614518aDoorDg
namespace Go.Proofs.Qxb6614518aDoor
open Go Go.RowKit
set_option linter.unusedVariables false

theorem new_one (w : World) (v : Value) (e : TypeId) (b : Addr) (hb : some (⟨w.heap.size, 0, none⟩ : Addr) = some b) (j : Nat) (u : Value) (hu : [v][j]? = some u) : (w.alloc (.cells #[v] e)).cell? (b.add j) = some u :=
  new_cells w [v] e b hb j u hu

theorem nil_ow (w : World) (base : Nat) : Ow w base (.slice none 0 0) [] := World.ownsRow_nil w base 5 1

theorem over_q (lb : Nat) (w : World) (h2 : w.cell? ⟨lb, 2, none⟩ = some .nilIface) :
    Calls Tryd.prog 23 #[.pointer (some ⟨lb, 0, none⟩)] w fun e w' => e = .returned (.int .i64 13) ∧ w' = w := (over_any lb w h2).mono fun e w' ⟨h, h'⟩ => ⟨h, h'.symm⟩

theorem Ow.form3 {w : World} {base : Nat} {v : Value} {zs : List Int} (h : Ow w base v zs) : ∃ so n c, v = .slice so n c := by
  obtain ⟨so, c, h⟩ := h.form
  exact ⟨so, _, c, h⟩

theorem nil_off (so : Option Addr) : ∀ a, so = some a → ¬ Value.ownBlock (.slice none 0 0) = some a.block := fun a _ h => by simp [Value.ownBlock] at h

theorem Ow.one {w : World} {base : Nat} {v : Value} {zs : List Int} (h : Ow w base v zs) : ∀ u ∈ [v], u.oneCell' = true := by
  obtain ⟨so, c, rfl⟩ := h.form
  intro u hu
  simp at hu
  subst hu
  rfl

set_option maxRecDepth 100000 in
set_option maxHeartbeats 1000000 in
theorem send_new0 (lb : Nat) (dso : Option Addr) (dc : Nat) (vs : List Value) (ep sq : Int) (so : Option Addr) (m c : Nat) (ys : List Int) (w : World) (base : Nat) (hD : Dgv w base (.slice dso 0 dc) vs []) (hb : base ≤ w.heap.size)
    (he0 : 0 ≤ ep) (he1 : ep ≤ 18446744073709551615) (hs0 : 0 ≤ sq) (hs1 : sq ≤ 281474976710655)
    (hsrc : Src w so m c ys) (hm : m ≤ 65535) (hls : LS w lb ep sq) (hlb : base ≤ lb) :
    Calls Tryd.prog 21 #[.pointer (some ⟨lb, 0, none⟩), .slice dso 0 dc, .int .u8 22, .slice so m c] w fun e w' => ∃ dv' vs', e = .returned (.tuple #[dv', .nilIface]) ∧ Dgv w' base dv' vs' [rec1 ep sq ys] ∧ Kpo base w w' ∧ LS w' lb ep (sq + 1) := by
  obtain ⟨i0, hi, hz0, hz1, hz2⟩ := info_parts Tryd.info26
  have c2 := hls.cell2
  have hls' := hide hls
  have hD' := hide hD
  have hsrc' := hide hsrc
  clear hls hD hsrc
  go_enter Tryd.func21, Tryd.ntmps21
  go_wp2_with fail
  go_quiet (fail)
  go_wp2_with fail
  refine (apr_ok lb (.slice none 0 0) ep sq so m c [] ys _ base (nil_ow _ _) (by exact hb) (by simp) he0 he1 hs0 hs1 (hsrc'.out.kp ((Kp.refl (fun _ => False) w).drewN _) (fun _ _ h => h)) (nil_off so) hm (hls'.out.kp ((Kp.refl (fun _ => False) w).drewN _) (fun h => h))).mono ?_
  rintro e w1 ⟨v1, rfl, O1, K1, N1, L1⟩
  have hz : w.heap.size ≤ w1.heap.size := K1.size
  obtain ⟨vo, vc, rfl⟩ := O1.form
  have R1 := hide (ownsRow_kp (hD'.out.row) (((Kp.refl (fun k => Value.ownBlock (.slice none 0 0) = some k ∨ k = lb) w).drewN _).trans K1 (fun _ _ h => h)) (fun k hk e => by rcases e with e | e; simp [Value.ownBlock] at e; subst e; exact hls'.out.ne (by decide) hD'.out.row hk))
  have F1 := hide (And.intro O1 (And.intro K1 (And.intro N1 L1)))
  clear O1 K1 N1 L1
  go_wp2_with (at_builtin; refine wpList_append_near _ rfl _ _ 23 rfl base 26 i0 (.slice none 0 0) 24 Tryd.underlying23 hi hz0 hz1 hz2 rfl (.slice dso 0 dc) 0 vs rfl (World.ownsRow.alloc R1.out _) (some ⟨w1.heap.size, 0, none⟩) 1 1 [_] rfl rfl (by simp) (fun b hb j u hu => new_one w1 _ 26 b hb j u hu) F1.out.1.one (by omega) (by unfold maxLen; omega) (by simp; omega) ?_)
  intro v2 w2 q1 q2 q3
  have F := dg_push (ls := []) (r := rec1 ep sq ys) hb hlb (show LS w lb ep (sq + 1 - 1) by rw [show sq + 1 - 1 = sq by omega]; exact hls'.out) hD'.out F1.out.1 (((Kp.refl _ w).drewN _).trans F1.out.2.1 (fun _ _ h => h)) (fun k hk => F1.out.2.2.1 k hk) F1.out.2.2.2 q1 q2
  clear q1 q2 q3 F1
  go_wp2
  go_ret2
  exact ⟨v2, _, rfl, F⟩
set_option maxRecDepth 100000 in
set_option maxHeartbeats 1000000 in
theorem send_newk (lb g k n dc ac : Nat) (ao : Option Addr) (vs : List Value) (ep sq : Int) (so : Option Addr) (m c : Nat) (ys : List Int) (w : World) (base : Nat) (ls : List (List Int)) (hD : Dgv w base (.slice (some ⟨g, 0, none⟩) (k + 1) dc) vs ls) (hkl : ls.length = k + 1) (hk : k ≤ 4000000) (hc : w.cell? ⟨g, k, none⟩ = some (.slice ao n ac)) (hn : n ≤ 140737488355328) (hfit : 1500 < n + 13 + m) (hb : base ≤ w.heap.size)
    (he0 : 0 ≤ ep) (he1 : ep ≤ 18446744073709551615) (hs0 : 0 ≤ sq) (hs1 : sq ≤ 281474976710655)
    (hsrc : Src w so m c ys) (hm : m ≤ 65535) (hls : LS w lb ep sq) (hlb : base ≤ lb) :
    Calls Tryd.prog 21 #[.pointer (some ⟨lb, 0, none⟩), .slice (some ⟨g, 0, none⟩) (k + 1) dc, .int .u8 22, .slice so m c] w fun e w' => ∃ dv' vs', e = .returned (.tuple #[dv', .nilIface]) ∧ Dgv w' base dv' vs' (ls ++ [rec1 ep sq ys]) ∧ Kpo base w w' ∧ LS w' lb ep (sq + 1) := by
  obtain ⟨i0, hi, hz0, hz1, hz2⟩ := info_parts Tryd.info26
  have c2 := hls.cell2
  have hls' := hide hls
  have hD' := hide hD
  have hsrc' := hide hsrc
  clear hls hD hsrc
  have hd : decide ((k : Int) < 0) = false := by simp
  go_enter Tryd.func21, Tryd.ntmps21
  go_wp2_with fail
  go_quiet ((go_at_call 23; exact Calls.quiet_of_same (over_q lb _ c2)))
  go_wp2_with fail
  refine (apr_ok lb (.slice none 0 0) ep sq so m c [] ys _ base (nil_ow _ _) (by exact hb) (by simp) he0 he1 hs0 hs1 (hsrc'.out.kp ((Kp.refl (fun _ => False) w).drewN _) (fun _ _ h => h)) (nil_off so) hm (hls'.out.kp ((Kp.refl (fun _ => False) w).drewN _) (fun h => h))).mono ?_
  rintro e w1 ⟨v1, rfl, O1, K1, N1, L1⟩
  have hz : w.heap.size ≤ w1.heap.size := K1.size
  obtain ⟨vo, vc, rfl⟩ := O1.form
  have R0 : w.ownsRow base 26 1 (.slice (some ⟨g, 0, none⟩) (k + 1) dc) (k + 1) vs := by have h := hD'.out.row; rw [hkl] at h; exact h
  have R1 := hide (ownsRow_kp R0 (((Kp.refl (fun k => Value.ownBlock (.slice none 0 0) = some k ∨ k = lb) w).drewN _).trans K1 (fun _ _ h => h)) (fun k hk e => by rcases e with e | e; simp [Value.ownBlock] at e; subst e; exact hls'.out.ne (by decide) hD'.out.row hk))
  have F1 := hide (And.intro O1 (And.intro K1 (And.intro N1 L1)))
  clear O1 K1 N1 L1 R0
  go_wp2_with (at_builtin; refine wpList_append_near _ rfl _ _ 23 rfl base 26 i0 (.slice none 0 0) 24 Tryd.underlying23 hi hz0 hz1 hz2 rfl (.slice (some ⟨g, 0, none⟩) (k + 1) dc) (k + 1) vs rfl (World.ownsRow.alloc R1.out _) (some ⟨w1.heap.size, 0, none⟩) 1 1 [_] rfl rfl (by simp) (fun b hb j u hu => new_one w1 _ 26 b hb j u hu) F1.out.1.one (by omega) (by unfold maxLen; omega) (by simp; omega) ?_)
  intro v2 w2 q1 q2 q3
  have F := dg_push (ls := ls) (r := rec1 ep sq ys) hb hlb (show LS w lb ep (sq + 1 - 1) by rw [show sq + 1 - 1 = sq by omega]; exact hls'.out) hD'.out F1.out.1 (((Kp.refl _ w).drewN _).trans F1.out.2.1 (fun _ _ h => h)) (fun k hk => F1.out.2.2.1 k hk) F1.out.2.2.2 (by rw [hkl]; exact q1) q2
  clear q1 q2 q3 F1
  go_wp2
  go_ret2
  exact ⟨v2, _, rfl, F⟩

set_option maxRecDepth 100000 in
set_option maxHeartbeats 1000000 in
theorem send_fit (lb g k dc : Nat) (u : Value) (l : List Int) (vs : List Value) (ep sq : Int) (so : Option Addr) (m c : Nat) (ys : List Int) (w : World) (base : Nat) (ls : List (List Int)) (hD : Dgv w base (.slice (some ⟨g, 0, none⟩) (k + 1) dc) vs ls) (hkl : ls.length = k + 1) (hk : k ≤ 4000000)
    (hu : vs[k]? = some u) (hl : ls[k]? = some l) (hfit : l.length + 13 + m ≤ 1500) (hb : base ≤ w.heap.size)
    (he0 : 0 ≤ ep) (he1 : ep ≤ 18446744073709551615) (hs0 : 0 ≤ sq) (hs1 : sq ≤ 281474976710655)
    (hsrc : Src w so m c ys) (hoff : ∀ a, so = some a → ¬ u.ownBlock = some a.block) (hls : LS w lb ep sq) (hlb : base ≤ lb) :
    Calls Tryd.prog 21 #[.pointer (some ⟨lb, 0, none⟩), .slice (some ⟨g, 0, none⟩) (k + 1) dc, .int .u8 22, .slice so m c] w fun e w' => ∃ dv' vs', e = .returned (.tuple #[dv', .nilIface]) ∧ Dgv w' base dv' vs' (ls.set k (l ++ rec1 ep sq ys)) ∧ Kpo base w w' ∧ LS w' lb ep (sq + 1) := by
  have c2 := hls.cell2
  have R0 : w.ownsRow base 26 1 (.slice (some ⟨g, 0, none⟩) (k + 1) dc) (k + 1) vs := by have h := hD.row; rw [hkl] at h; exact h
  have hOu := hide (hD.el k u l hu hl)
  obtain ⟨ao, ac, hform⟩ := hOu.out.form
  subst hform
  have hc : w.cell? ⟨g, k, none⟩ = some (.slice ao l.length ac) := by rw [R0.cellAt k (by omega)]; exact hu
  have hu' := hide hu
  have hl' := hide hl
  have hls' := hide hls
  have hD' := hide hD
  have hsrc' := hide hsrc
  have R0' := hide R0
  have hoff' := hide hoff
  clear hls hD hsrc R0 hu hl hoff
  have hd : decide ((k : Int) < 0) = false := by simp
  generalize hn : l.length = n at *
  have hn' := hide hn
  clear hn
  go_enter Tryd.func21, Tryd.ntmps21
  go_wp2_with fail
  go_quiet ((go_at_call 23; exact Calls.quiet_of_same (over_q lb _ c2)))
  go_wp2_with fail
  refine (apr_ok lb (.slice ao n ac) ep sq so m c l ys _ base (by exact hOu.out) (by exact hb) (by rw [unhide hn']; omega) he0 he1 hs0 hs1 (hsrc'.out.kp ((Kp.refl (fun _ => False) w).drewN _) (fun _ _ h => h)) hoff'.out (by omega) (hls'.out.kp ((Kp.refl (fun _ => False) w).drewN _) (fun h => h))).mono ?_
  rintro e w1 ⟨v1, rfl, O1, K1, N1, L1⟩
  obtain ⟨vo, vn, vc, rfl⟩ := O1.form3
  have K1' : Kp (fun j => (Value.slice ao n ac).ownBlock = some j ∨ j = lb) w w1 := ((Kp.refl _ w).drewN _).trans K1 (fun _ _ h => h)
  have R1 : w1.ownsRow base 26 1 (.slice (some ⟨g, 0, none⟩) (k + 1) dc) (k + 1) vs := ownsRow_kp R0'.out K1' (fun j hj e => by
    rcases e with e | e
    · exact rows_ne (by decide) hOu.out R0'.out j e hj
    · subst e; exact hls'.out.ne (by decide) R0'.out hj)
  have cc : w1.cell? ⟨g, k, none⟩ = some (.slice ao n ac) := by rw [R1.cellAt k (by omega)]; exact hu'.out
  have ff : w1.frozen? ⟨g, k, none⟩ = false := R1.frozenAt k
  have F := dg_last hb hlb (show LS w lb ep (sq + 1 - 1) by rw [show sq + 1 - 1 = sq by omega]; exact hls'.out) hD'.out hkl hu'.out hl'.out O1 K1' (fun k hk => N1 k hk) L1
  have F' := hide F
  clear O1 K1 K1' N1 L1 R1 F hc
  go_wp2
  go_ret2
  exact ⟨_, _, rfl, F'.out⟩

set_option maxRecDepth 100000 in
set_option maxHeartbeats 1000000 in
theorem send_err0 (lb : Nat) (dso : Option Addr) (dc : Nat) (ep sq : Int) (so : Option Addr) (m c : Nat) (w : World) (ev : Value) (eT : Nat) (ea : Addr) (hev : w.cell? ⟨1, 0, none⟩ = some (.iface eT (.pointer (some ea))))
    (hgt : 281474976710655 < sq) (hls : LS w lb ep sq) :
    Calls Tryd.prog 21 #[.pointer (some ⟨lb, 0, none⟩), .slice dso 0 dc, .int .u8 22, .slice so m c] w fun e w' => e = .returned (.tuple #[.slice dso 0 dc, .iface eT (.pointer (some ea))]) ∧ ∃ n, w' = w.drewN n := by
  have c2 := hls.cell2
  have hls' := hide hls
  clear hls
  go_enter Tryd.func21, Tryd.ntmps21
  go_wp2_with fail
  go_quiet (fail)
  go_wp2_with fail
  refine (apr_err lb (.slice none 0 0) ep sq so m c _ _ (hls'.out.kp ((Kp.refl (fun _ => False) w).drewN _) (fun h => h)) hgt (by exact hev)).mono ?_
  rintro e w1 ⟨rfl, rfl⟩
  go_wp2
  go_ret2
  exact ⟨rfl, _, rfl⟩

set_option maxRecDepth 100000 in
set_option maxHeartbeats 1000000 in
theorem send_errk (lb g k n dc ac : Nat) (ao : Option Addr) (ep sq : Int) (so : Option Addr) (m c : Nat) (w : World) (eT : Nat) (ea : Addr) (hev : w.cell? ⟨1, 0, none⟩ = some (.iface eT (.pointer (some ea))))
    (hk : k ≤ 4000000) (hc : w.cell? ⟨g, k, none⟩ = some (.slice ao n ac)) (hf : w.frozen? ⟨g, k, none⟩ = false) (hn : n ≤ 140737488355328) (hm : m ≤ 65535)
    (hgt : 281474976710655 < sq) (hls : LS w lb ep sq) :
    Calls Tryd.prog 21 #[.pointer (some ⟨lb, 0, none⟩), .slice (some ⟨g, 0, none⟩) (k + 1) dc, .int .u8 22, .slice so m c] w fun e w' => e = .returned (.tuple #[.slice (some ⟨g, 0, none⟩) (k + 1) dc, .iface eT (.pointer (some ea))]) ∧ (∃ q, w' = w.drewN q ∨ w' = (w.drewN q).setCell ⟨g, k, none⟩ (.slice ao n ac)) := by
  have c2 := hls.cell2
  have hls' := hide hls
  clear hls
  have hd : decide ((k : Int) < 0) = false := by simp
  by_cases hfit : 1500 < n + 13 + m
  · go_enter Tryd.func21, Tryd.ntmps21
    go_wp2_with fail
    go_quiet ((go_at_call 23; exact Calls.quiet_of_same (over_q lb _ c2)))
    go_wp2_with fail
    refine (apr_err lb (.slice none 0 0) ep sq so m c _ _ (hls'.out.kp ((Kp.refl (fun _ => False) w).drewN _) (fun h => h)) hgt (by exact hev)).mono ?_
    rintro e w1 ⟨rfl, rfl⟩
    go_wp2
    go_ret2
    exact ⟨rfl, _, .inl rfl⟩
  · go_enter Tryd.func21, Tryd.ntmps21
    go_wp2_with fail
    go_quiet ((go_at_call 23; exact Calls.quiet_of_same (over_q lb _ c2)))
    go_wp2_with fail
    refine (apr_err lb (.slice ao n ac) ep sq so m c _ _ (hls'.out.kp ((Kp.refl (fun _ => False) w).drewN _) (fun h => h)) hgt (by exact hev)).mono ?_
    rintro e w1 ⟨rfl, rfl⟩
    go_wp2
    go_ret2
    exact ⟨rfl, _, .inr rfl⟩
end Go.Proofs.Qxb6614518aDoor
