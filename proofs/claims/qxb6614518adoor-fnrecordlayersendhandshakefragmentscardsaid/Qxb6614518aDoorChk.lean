/-
  OURS. zzCheckRecord (f12), where the record is what it should be.
-/
import Derived.Test.Qxb6614518aDoorRead
import Derived.Test.Qxb6614518aDoorPlain3
import Derived.Deep.DeepCutAuto
namespace Go.Proofs.Qxb6614518aDoor
open Go Go.RowKit
set_option linter.unusedVariables false

/-- The bytes of a record's two headers, at place P of block b. -/
structure Hd (w : World) (b P : Nat) (ep sq ty ln ms : Int) (k o n : Nat) (x : Nat → Int) (y1 y2 l1 l2 l3 m1 m2 o1 o2 o3 n1 n2 n3 : Int) : Prop where
  c0 : w.cell? ⟨b, P, none⟩ = some (.int .u8 22)
  c1 : w.cell? ⟨b, P + 1, none⟩ = some (.int .u8 254)
  c2 : w.cell? ⟨b, P + 2, none⟩ = some (.int .u8 253)
  c3 : w.cell? ⟨b, P + 3, none⟩ = some (.int .u8 (ep / 256 % 256))
  c4 : w.cell? ⟨b, P + 4, none⟩ = some (.int .u8 (ep % 256))
  cx : ∀ i, i < 6 → w.cell? ⟨b, P + 5 + i, none⟩ = some (.int .u8 (x i))
  xb : ∀ i, 0 ≤ x i ∧ x i ≤ 255
  xe : rd x 6 = sq + k
  c11 : w.cell? ⟨b, P + 11, none⟩ = some (.int .u8 y1)
  c12 : w.cell? ⟨b, P + 12, none⟩ = some (.int .u8 y2)
  y : 0 ≤ y1 ∧ y1 ≤ 255 ∧ 0 ≤ y2 ∧ y2 ≤ 255 ∧ y1 * 256 + y2 = 12 + n
  f0 : w.cell? ⟨b, P + 13, none⟩ = some (.int .u8 ty)
  f1 : w.cell? ⟨b, P + 13 + 1, none⟩ = some (.int .u8 l1)
  f2 : w.cell? ⟨b, P + 13 + 1 + 1, none⟩ = some (.int .u8 l2)
  f3 : w.cell? ⟨b, P + 13 + 1 + 2, none⟩ = some (.int .u8 l3)
  l : 0 ≤ l1 ∧ l1 ≤ 255 ∧ 0 ≤ l2 ∧ l2 ≤ 255 ∧ 0 ≤ l3 ∧ l3 ≤ 255 ∧ l1 * 65536 + l2 * 256 + l3 = ln % 16777216
  f4 : w.cell? ⟨b, P + 13 + 4, none⟩ = some (.int .u8 m1)
  f5 : w.cell? ⟨b, P + 13 + 5, none⟩ = some (.int .u8 m2)
  m : 0 ≤ m1 ∧ m1 ≤ 255 ∧ 0 ≤ m2 ∧ m2 ≤ 255 ∧ m1 * 256 + m2 = ms
  f6 : w.cell? ⟨b, P + 13 + 6, none⟩ = some (.int .u8 o1)
  f7 : w.cell? ⟨b, P + 13 + 6 + 1, none⟩ = some (.int .u8 o2)
  f8 : w.cell? ⟨b, P + 13 + 6 + 2, none⟩ = some (.int .u8 o3)
  o : 0 ≤ o1 ∧ o1 ≤ 255 ∧ 0 ≤ o2 ∧ o2 ≤ 255 ∧ 0 ≤ o3 ∧ o3 ≤ 255 ∧ o1 * 65536 + o2 * 256 + o3 = o
  f9 : w.cell? ⟨b, P + 13 + 9, none⟩ = some (.int .u8 n1)
  f10 : w.cell? ⟨b, P + 13 + 9 + 1, none⟩ = some (.int .u8 n2)
  f11 : w.cell? ⟨b, P + 13 + 9 + 2, none⟩ = some (.int .u8 n3)
  n : 0 ≤ n1 ∧ n1 ≤ 255 ∧ 0 ≤ n2 ∧ n2 ≤ 255 ∧ 0 ≤ n3 ∧ n3 ≤ 255 ∧ n1 * 65536 + n2 * 256 + n3 = n

theorem Hd.drewN {w : World} {b P : Nat} {ep sq ty ln ms : Int} {k o n : Nat} {x : Nat → Int} {y1 y2 l1 l2 l3 m1 m2 o1 o2 o3 n1 n2 n3 : Int} (h : Hd w b P ep sq ty ln ms k o n x y1 y2 l1 l2 l3 m1 m2 o1 o2 o3 n1 n2 n3) (q : Nat) :
    Hd (w.drewN q) b P ep sq ty ln ms k o n x y1 y2 l1 l2 l3 m1 m2 o1 o2 o3 n1 n2 n3 :=
  ⟨h.c0, h.c1, h.c2, h.c3, h.c4, h.cx, h.xb, h.xe, h.c11, h.c12, h.y, h.f0, h.f1, h.f2, h.f3, h.l, h.f4, h.f5, h.m, h.f6, h.f7, h.f8, h.o, h.f9, h.f10, h.f11, h.n⟩

set_option maxRecDepth 100000 in
set_option maxHeartbeats 4000000 in
theorem chk_any (b d p n dc k o L fb : Nat) (fso : Option Addr) (ep sq ty ln ms : Int) (x : Nat → Int) (y1 y2 l1 l2 l3 m1 m2 o1 o2 o3 n1 n2 n3 : Int) (zs : List Int) (w : World)
    (h : Hd w b (d + p) ep sq ty ln ms k o n x y1 y2 l1 l2 l3 m1 m2 o1 o2 o3 n1 n2 n3)
    (hn : n = 0 → L = 0 ∧ o = 0) (hfso : 0 < n → fso = some ⟨fb, 0, none⟩) (hlen : p + (13 + (12 + n)) ≤ 1500) (hcap : p + (13 + (12 + n)) ≤ dc) (hoL : o + n ≤ L) (hLb : L ≤ 1048576)
    (he0 : 0 ≤ ep) (he1 : ep ≤ 18446744073709551615) (hs0 : 0 ≤ sq) (hs1 : sq + k ≤ 281474976710655) (hl0 : 0 ≤ ln) (hl1 : ln ≤ 4294967295) (hm0 : 0 ≤ ms) (hm1 : ms ≤ 65535)
    (s1 : 0 < n → Src w (some ⟨b, d + p + 13 + 12, none⟩) n (dc - p - 13 - 12) zs) (s2 : 0 < n → Src w (some ⟨fb, o, none⟩) n (L - o) zs) :
    Calls Tryd.prog 12 #[.slice (some ⟨b, d, none⟩) (p + (13 + (12 + n))) dc, .int .i64 (p : Nat), .int .u64 ep, .int .u64 sq, .int .i64 (k : Nat), .int .u8 ty, .int .u32 ln, .int .u16 ms, .slice fso L L, .int .i64 (o : Nat)] w fun e w' => e = .returned (.tuple #[.int .i64 (n : Nat), .bool true]) ∧ ∃ q, w' = w.drewN q := by
  have H := hide h
  have S := hide (And.intro s1 s2)
  have c0 := h.c0
  have c1 := h.c1
  have c2 := h.c2
  have c3 := h.c3
  have c4 := h.c4
  have N := hide (And.intro hn hfso)
  clear h s1 s2 hn hfso
  have hkb : (k : Int) ≤ 281474976710655 - sq := by omega
  go_enter Tryd.func12, Tryd.ntmps12
  go_wp2_with fail
  refine (r48_any b (d + p + 5) _ x w H.out.cx H.out.xb).mono ?_
  rw [H.out.xe]
  rintro e w' ⟨rfl, rfl⟩
  have c11 := H.out.c11
  have c12 := H.out.c12
  have hy := H.out.y
  have E1 : bits .or .i64 (y1 * 256) y2 = 12 + n := by rw [or8_i64 (y1 * 256) y2 (by omega) (by omega) (by omega) (by omega) (by omega)]; exact hy.2.2.2.2
  have hy1 := hy.1
  have hy2 := hy.2.1
  have hy3 := hy.2.2.1
  have hy4 := hy.2.2.2.1
  clear hy c0 c1 c2 c3 c4
  go_wp2_with fail
  go_quiet (fail)
  clear E1 c11 c12 hy1 hy2 hy3 hy4
  have f0 := H.out.f0
  have A1 : bits .and .u32 ln 16777215 = ln % 16777216 := and24_u32 ln hl0 (by omega)
  have H1 := hide (H.out.drewN nq)
  have S1 := hide (And.intro (fun h => src_drewN (S.out.1 h) nq) (fun h => src_drewN (S.out.2 h) nq))
  have T1 : Hid (∃ q, w.drewN nq = w.drewN q) := ⟨nq, rfl⟩
  generalize w.drewN nq = u at H1 S1 T1 ⊢
  clear H S
  replace f0 := H1.out.f0
  go_wp2_with fail
  refine (r24_any b (d + p + 13 + 1) _ l1 l2 l3 u H1.out.f1 H1.out.f2 H1.out.f3 H1.out.l.1 H1.out.l.2.1 H1.out.l.2.2.1 H1.out.l.2.2.2.1 H1.out.l.2.2.2.2.1 H1.out.l.2.2.2.2.2.1).mono ?_
  rw [H1.out.l.2.2.2.2.2.2]
  rintro e u2 ⟨rfl, q2, hq2⟩
  have H2 := hide (show Hd u2 b (d + p) ep sq ty ln ms k o n x y1 y2 l1 l2 l3 m1 m2 o1 o2 o3 n1 n2 n3 by rw [hq2]; exact H1.out.drewN q2)
  have S2 := hide (show (0 < n → Src u2 (some ⟨b, d + p + 13 + 12, none⟩) n (dc - p - 13 - 12) zs) ∧ (0 < n → Src u2 (some ⟨fb, o, none⟩) n (L - o) zs) by rw [hq2]; exact ⟨fun h => src_drewN (S1.out.1 h) q2, fun h => src_drewN (S1.out.2 h) q2⟩)
  have T2 : Hid (∃ q, u2 = w.drewN q) := by obtain ⟨q, hq⟩ := T1.out; exact ⟨q + q2, by rw [hq2, hq, World.drewN_drewN]⟩
  clear H1 S1 T1 f0 hq2
  have f4 := H2.out.f4
  have f5 := H2.out.f5
  have hm := H2.out.m
  have E2 : bits .or .i64 (m1 * 256) m2 = ms := by rw [or8_i64 (m1 * 256) m2 (by omega) (by omega) (by omega) (by omega) (by omega)]; exact hm.2.2.2.2
  have ha1 := hm.1
  have ha2 := hm.2.1
  have ha3 := hm.2.2.1
  have ha4 := hm.2.2.2.1
  clear hm
  have HR := hide (fun (q : Nat) => r24_any b (d + p + 13 + 6) (dc - p - 13 - 6) o1 o2 o3 (u2.drewN q) H2.out.f6 H2.out.f7 H2.out.f8 H2.out.o.1 H2.out.o.2.1 H2.out.o.2.2.1 H2.out.o.2.2.2.1 H2.out.o.2.2.2.2.1 H2.out.o.2.2.2.2.2.1)
  rw [H2.out.o.2.2.2.2.2.2] at HR
  go_wp2_with fail
  go_quiet ((go_at_call 18; exact Calls.quiet_of (HR.out _)))
  have H3 := hide (H2.out.drewN nq)
  have S3 := hide (And.intro (fun h => src_drewN (S2.out.1 h) nq) (fun h => src_drewN (S2.out.2 h) nq))
  have T3 : Hid (∃ q, u2.drewN nq = w.drewN q) := by obtain ⟨q, hq⟩ := T2.out; exact ⟨q + nq, by rw [hq, World.drewN_drewN]⟩
  generalize u2.drewN nq = u3 at H3 S3 T3 ⊢
  clear H2 S2 T2 HR f4 f5 E2 ha1 ha2 ha3 ha4 A1
  go_wp2_with fail
  refine (r24_any b (d + p + 13 + 9) _ n1 n2 n3 u3 H3.out.f9 H3.out.f10 H3.out.f11 H3.out.n.1 H3.out.n.2.1 H3.out.n.2.2.1 H3.out.n.2.2.2.1 H3.out.n.2.2.2.2.1 H3.out.n.2.2.2.2.2.1).mono ?_
  rw [H3.out.n.2.2.2.2.2.2]
  rintro e u4 ⟨rfl, q4, hq4⟩
  have S4 := hide (show (0 < n → Src u4 (some ⟨b, d + p + 13 + 12, none⟩) n (dc - p - 13 - 12) zs) ∧ (0 < n → Src u4 (some ⟨fb, o, none⟩) n (L - o) zs) by rw [hq4]; exact ⟨fun h => src_drewN (S3.out.1 h) q4, fun h => src_drewN (S3.out.2 h) q4⟩)
  have T4 : Hid (∃ q, u4 = w.drewN q) := by obtain ⟨q, hq⟩ := T3.out; exact ⟨q + q4, by rw [hq4, hq, World.drewN_drewN]⟩
  clear H3 S3 T3 hq4
  have ho1 : (o : Int) + n ≤ L := by omega
  have ho2 : (n : Int) ≤ L - o := by omega
  have ho3 := hide (show (n : Int) = 12 + n - 12 by omega)
  have ho4 : ((n : Int) != 12 + n - 12) = false := by simp; exact ho3.out
  have hn1 : (n : Int) ≤ 1500 := by omega
  go_upto_region 20 with fail
  go_cut [8, 9, 23, 24, 152] from 25 (fun f8 f9 f23 f24 fx wx => f8 = .slice fso L L ∧ f9 = .int .i64 (o : Nat) ∧ f23 = .slice (some ⟨b, d + p + 13, none⟩) (12 + n) (dc - p - 13) ∧ f24 = .int .i64 (n : Nat) ∧ fx = .bool false ∧ u4 = wx)
  case first =>
    clear hcap hlen hl0 hl1 hm0 hm1 hs0 hs1 he0 he1 hkb
    go_wp2_with fail
    go_meet
    case rel => exact ⟨rfl, rfl, rfl, rfl, by simp; omega, rfl⟩
  case rest =>
    obtain ⟨rfl, rfl, rfl, rfl, rfl, rfl⟩ := hcut
    clear hkb hl0 hl1 hm0 hm1 hs0 hs1 he0 he1
    by_cases hn : 0 < n
    · have hf := N.out.2 hn
      subst hf
      go_wp2_with fail
      go_quiet ((go_at_call 11; exact Calls.quiet_of (eq_any (src_drewN (S4.out.1 hn) _) (src_drewN (S4.out.2 hn) _) (by omega))))
      have T5 : Hid (∃ q, u4.drewN nq = w.drewN q) := by obtain ⟨q, hq⟩ := T4.out; exact ⟨q + nq, by rw [hq, World.drewN_drewN]⟩
      go_wp2
      go_ret2
      exact ⟨rfl, T5.out⟩
    · have hn0 := hide (show n = 0 by omega)
      have hLo : L - o = 0 := by have := N.out.1 hn0.out; omega
      have hze : 12 ≤ dc - p - 13 := by omega
      generalize dc - p - 13 = e at hze ⊢
      clear hlen hcap S4 N hn
      cases fso with
      | none =>
        by_cases hz : e - 12 = 0
        · go_wp2_with fail
          go_quiet ((go_at_call 11; exact Calls.quiet_of (eq_any (xs := []) ⟨hn0.out.symm, (fun h => by first | exact ⟨hn0.out, by omega⟩ | cases h), fun _ _ _ _ h => by simp at h⟩ ⟨hn0.out.symm, (fun h => by first | exact ⟨hn0.out, by omega⟩ | cases h), fun _ _ _ _ h => by simp at h⟩ (by omega))))
          have T5 : Hid (∃ q, u4.drewN nq = w.drewN q) := by obtain ⟨q, hq⟩ := T4.out; exact ⟨q + nq, by rw [hq, World.drewN_drewN]⟩
          go_wp2
          go_ret2
          exact ⟨rfl, T5.out⟩
        · go_wp2_with fail
          go_quiet ((go_at_call 11; exact Calls.quiet_of (eq_any (xs := []) ⟨hn0.out.symm, (fun h => by first | exact ⟨hn0.out, by omega⟩ | cases h), fun _ _ _ _ h => by simp at h⟩ ⟨hn0.out.symm, (fun h => by first | exact ⟨hn0.out, by omega⟩ | cases h), fun _ _ _ _ h => by simp at h⟩ (by omega))))
          have T5 : Hid (∃ q, u4.drewN nq = w.drewN q) := by obtain ⟨q, hq⟩ := T4.out; exact ⟨q + nq, by rw [hq, World.drewN_drewN]⟩
          go_wp2
          go_ret2
          exact ⟨rfl, T5.out⟩
      | some fa =>
        by_cases hz : e - 12 = 0
        · go_wp2_with fail
          go_quiet ((go_at_call 11; exact Calls.quiet_of (eq_any (xs := []) ⟨hn0.out.symm, (fun h => by first | exact ⟨hn0.out, by omega⟩ | cases h), fun _ _ _ _ h => by simp at h⟩ ⟨hn0.out.symm, (fun h => by first | exact ⟨hn0.out, by omega⟩ | cases h), fun _ _ _ _ h => by simp at h⟩ (by omega))))
          have T5 : Hid (∃ q, u4.drewN nq = w.drewN q) := by obtain ⟨q, hq⟩ := T4.out; exact ⟨q + nq, by rw [hq, World.drewN_drewN]⟩
          go_wp2
          go_ret2
          exact ⟨rfl, T5.out⟩
        · go_wp2_with fail
          go_quiet ((go_at_call 11; exact Calls.quiet_of (eq_any (xs := []) ⟨hn0.out.symm, (fun h => by first | exact ⟨hn0.out, by omega⟩ | cases h), fun _ _ _ _ h => by simp at h⟩ ⟨hn0.out.symm, (fun h => by first | exact ⟨hn0.out, by omega⟩ | cases h), fun _ _ _ _ h => by simp at h⟩ (by omega))))
          have T5 : Hid (∃ q, u4.drewN nq = w.drewN q) := by obtain ⟨q, hq⟩ := T4.out; exact ⟨q + nq, by rw [hq, World.drewN_drewN]⟩
          go_wp2
          go_ret2
          exact ⟨rfl, T5.out⟩
end Go.Proofs.Qxb6614518aDoor
