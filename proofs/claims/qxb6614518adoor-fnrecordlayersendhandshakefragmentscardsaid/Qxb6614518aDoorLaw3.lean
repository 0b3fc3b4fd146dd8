/-
  OURS. FnRecordLayerSendHandshakeFragments (f3): the walk.
-/
import Derived.Test.Qxb6614518aDoorTail3
import Derived.Test.Qxb6614518aDoorLaw4
namespace Go.Proofs.Qxb6614518aDoor
open Go Go.RowKit
set_option linter.unusedVariables false

theorem Dgv.own0 {w : World} {base : Nat} {so : Option Addr} {n c : Nat} {vs : List Value} {ls : List (List Int)} (h : Dgv w base (.slice so n c) vs ls) :
    ∀ i l, ls[i]? = some l → l ≠ [] → ∃ b o g d, so = some ⟨b, o, none⟩ ∧ w.cell? ⟨b, o + i, none⟩ = some (.slice (some ⟨g, 0, none⟩) l.length d) ∧ Src w (some ⟨g, 0, none⟩) l.length d l ∧ l.length ≤ d := by
  intro i l hl hne
  have hlen := h.len
  have hr := h.row
  have hi := (List.getElem?_eq_some_iff.1 hl).1
  rcases hr.2 with ⟨hv, h0⟩ | ⟨g, cap, cur, hv, _⟩
  · omega
  · cases hv
    have hv : vs[i]? = some (vs[i]'(by omega)) := List.getElem?_eq_getElem (by omega)
    have hO := h.el i _ l hv hl
    rcases hO.2 with ⟨e, h0⟩ | ⟨g', cap', cur', e, _, _, hc, _⟩
    · exact absurd (List.eq_nil_of_length_eq_zero h0) hne
    · rw [e] at hO hv
      exact ⟨g, 0, g', cap', rfl, by rw [Nat.zero_add, hr.cellAt i (by omega)]; exact hv, hO.src, hc⟩

set_option maxRecDepth 100000 in
set_option maxHeartbeats 4000000 in
theorem law3 {w : World} {so fso : Option Addr} {n c fl fc : Nat} {ls : List (List Int)} {ys : List Int} {eT : Nat} {ea : Addr} (h : Args w so n c ls fso fl fc ys eT ea) (M : Msg) (hok : M.ok) (hs1 : M.sq ≤ 18446744073709551615) (hb : M.body = ys) (of : Int) :
    Calls Tryd.prog 3 #[.int .u64 M.ep, .int .u64 M.sq, .slice so n c, .int .u8 M.ty, .int .u32 M.ln, .int .u16 M.ms, .int .u32 of, .slice fso fl fc] w (Holds w) := by
  have hnn := fun (w : World) (a : Option Addr) (n c n' c' : Nat) => run_neq_slice_nil_any (P := Tryd.prog) w 26 5 a n c n' c' Tryd.underlying26
  obtain ⟨i0, hi, hz0, hz1, hz2⟩ := info_parts Tryd.info5
  have H := hide h
  have hn := h.hn
  have hfl := h.hfl
  have hok' := hide hok
  have hb' := hide hb
  have he0 := hok.he0
  have he1 := hok.he1
  have hs0 := hok.hs0
  clear h hok hb
  have T : Hid (∀ (W : World), Below w.heap.size w W → Holds w (.returned (.bool true)) W) := fun W h => ⟨rfl, h⟩
  go_enter Tryd.func3, Tryd.ntmps3
  go_wp2_with fail
  refine (bytes5_any H.out.rows hn hfl M.ep M.sq M.ty M.ln M.ms of).mono ?_
  rintro e w' ⟨b, rfl, rfl⟩
  cases b
  · go_wp2
    go_ret
    exact T.out _ (Below.refl _ _)
  by_cases hg1 : 65536 < n ∨ 1048576 < fl
  · by_cases hg2 : 65536 < n
    · go_wp2
      go_ret
      exact T.out _ (Below.refl _ _)
    · have hg3 : 1048576 < fl := by omega
      go_wp2
      go_ret
      exact T.out _ (Below.refl _ _)
  have hn' : n ≤ 65536 := by omega
  have hfl' : fl ≤ 1048576 := by omega
  clear hg1
  go_wp2_with fail
  refine (nest_any H.out.rows hn fl (by omega)).mono ?_
  rintro e w' ⟨b, rfl, rfl⟩
  cases b
  case true =>
    go_wp2
    go_ret
    exact T.out _ (Below.refl _ _)
  go_upto_if 62 with fail
  go_cut [7] (fun f wc => ∃ fso', f = .slice fso' fl fl ∧ Hid (Frag w fso' fl ys wc))
  case first =>
    cases fso with
    | none =>
      have h0 := H.out.src.none rfl
      obtain ⟨rfl, rfl⟩ := h0
      go_wp2
      go_meet
      case rel => exact ⟨none, rfl, H.out.src, Kp.refl _ _, fun h => by omega⟩
    | some fa =>
      go_upto_region 9 with (at_make; refine wpList_make_full _ rfl _ _ 26 rfl w.heap.size 5 i0 (.int .u8 0) 1 Tryd.underlying26 hi hz0 hz1 .i64 .i64 _ _ fl rfl rfl (by simp) (by simp) (by rw [hz2]; omega) (by unfold maxLen; omega) (Nat.le_refl _) ?_)
      intro w1 h1 h2
      have C : ∃ cur : List Value, cur.length = fl ∧ w1.heap[w.heap.size]? = some (.cells cur.toArray 5 (0, 0)) := by
        rcases h1.2 with ⟨hv, _⟩ | ⟨g, cap, cur, hv, _, hg, _, _, hsz, _⟩
        · cases hv
        · cases hv
          exact ⟨cur.toList, by simpa using hsz, by simpa using hg⟩
      obtain ⟨cur, hc1, hc2⟩ := C
      have G := hide (And.intro hc1 (And.intro hc2 (show Kp (fun _ => False) w w1 from (Kp.refl _ w).grown h2 (fun k hk => by cases hk))))
      clear h1 h2 hc1 hc2
      go_upto_region 9 with fail
      go_wp2_with (refine wpList_copy_splice rfl (.tmp 66) (.tmp 67) 26 26 rfl 5 Tryd.underlying26 Tryd.size5 (some ⟨w.heap.size, 0, none⟩) (some fa) fl fl fl fc rfl rfl w.heap.size 0 cur 5 G.out.2.1 (ys.map (Value.int .u8)) (by rw [List.length_map, H.out.src.len]; simp) (fun _ => ⟨rfl, fa, rfl, Src.vals (H.out.src.kp G.out.2.2 (fun _ _ h => h)) fa rfl⟩) (by rw [List.length_map, H.out.src.len, G.out.1]; omega) (ints_oneCell _ _) w.heap.size w (G.out.2.2.below (Nat.le_refl _) (fun _ _ h => h)) (Nat.le_refl _) ?_; intro w2 q1 q2)
      have F := hide (frag_of H.out.src.len G.out.1 G.out.2.2 q1.out q2)
      clear q1 q2
      go_wp2
      go_meet
      case rel => exact ⟨_, rfl, F⟩
  case rest =>
    obtain ⟨fso', rfl, F⟩ := hcut
    clear hnn hi hz0 hz1 hz2 i0
    have hR1 := hide (H.out.rows.kp F.out.kp)
    have hev1 := hide (show wc.cell? ⟨1, 0, none⟩ = some (.iface eT (.pointer (some ea))) by rw [F.out.kp.cell (p := ⟨1, 0, none⟩) (by exact H.out.sz) (fun h => h)]; exact H.out.ev)
    have hsz1 : 1 < wc.heap.size := Nat.lt_of_lt_of_le H.out.sz F.out.kp.size
    go_wp2_with fail
    refine (clones_any hR1.out hn').mono ?_
    rintro e w2 ⟨rv, rvs, rfl, D2, K2⟩
    obtain ⟨rso, rc, rfl⟩ := D2.form H.out.rows.len
    have D2' := hide D2
    have K2' := hide K2
    have hsz2 : wc.heap.size ≤ w2.heap.size := K2.size
    clear D2 K2
    go_wp2_with fail
    refine (clones_any (hR1.out.kp K2'.out) hn').mono ?_
    rintro e w3 ⟨iv, ivs, rfl, D3, K3⟩
    have D3' := hide D3
    have K3' := hide K3
    have hsz3 : w2.heap.size ≤ w3.heap.size := K3.size
    clear D3 K3
    go_wp2_with fail
    refine (new_any M.ep M.sq w3).mono ?_
    rintro e w4 ⟨rfl, L4, K4⟩
    have R4 := hide (show Ready M ls w4 w2.heap.size w3.heap.size iv ivs fso' fl eT ea from
      ⟨hok'.out, D3'.out.later K4, by rw [H.out.rows.len]; exact hn', H.out.rows.each, Nat.le_trans hsz3 K4.size, hsz3, L4, by
        rw [hb'.out]
        exact ((F.out.src.kp K2'.out (fun _ _ h => h)).kp K3'.out (fun _ _ h => h)).kp K4 (fun _ _ h => h), fun h => by
        obtain ⟨fb, e, h⟩ := F.out.head h
        exact ⟨fb, e, by omega⟩, by
        rw [K4.cell (p := ⟨1, 0, none⟩) (by show 1 < w3.heap.size; omega) (fun h => h), K3'.out.cell (p := ⟨1, 0, none⟩) (by show 1 < w2.heap.size; omega) (fun h => h), K2'.out.cell (p := ⟨1, 0, none⟩) hsz1 (fun h => h)]
        exact hev1.out, by omega⟩)
    have K24 := hide (K3'.out.none K4)
    clear L4 K4
    go_wp2_with fail
    refine (door_any R4.out of).mono ?_
    rintro e w5 ⟨o1v, o1s, k1, er1, rfl, D5, L5, K5, hj1, hc1⟩
    obtain ⟨o1, c1, rfl⟩ := D5.form rfl
    have K25 := hide (kpo_from K24.out K5 (Nat.le_refl _))
    have S1 := hide (And.intro D5 (And.intro hj1 hc1))
    have L5' := hide L5
    clear D5 L5 K5 hj1 hc1
    go_wp2_with fail
    refine (seq_any w3.heap.size M.ep (M.sq + k1) w5 L5'.out).mono ?_
    rintro e w' ⟨rfl, rfl⟩
    have hLL : M.body.length = fl := by rw [hb'.out]; exact H.out.src.len
    have hout : Out M ls k1 er1 .nilIface (.iface eT (.pointer (some ea))) := S1.out.2
    obtain ⟨r0, c0, m, inl, hsh, hfin⟩ := shape_of hout
    have hnm : (M.st ls k1).1.length = n + m := by rw [hsh.len, H.out.rows.len]
    have RA1 : RowsAt w5 o1 (n + m) c1 (M.st ls k1).1 := by
      have := S1.out.1.rowsAt (st_each M ls H.out.rows.each (by decide) k1)
      rw [hnm] at this
      exact this
    have RAr : RowsAt w5 rso n rc ls := (D2'.out.later K25.out).rowsAt H.out.rows.each
    have OWN := hide (S1.out.1.own0)
    have hkb := out_bound hout
    have hka := out_any hout
    have MID := hide (show Mid3 M ls (M.st ls k1).1 w w5 eT ea rso n rc o1 c1 k1 er1 fso' fl r0 c0 m inl from
      ⟨hok'.out, hLL, hfl', hs1, by omega, hn', by omega, RAr, RA1, OWN.out, hsh, hfin, by
        rw [hb'.out]
        exact (F.out.src.kp K2'.out (fun _ _ h => h)).kp K25.out (fun _ _ h => h), fun h0 => by
        obtain ⟨fb, e, _⟩ := F.out.head h0
        exact ⟨fb, e⟩, fun q => T.out _ ((Kp.below (F.out.kp.none (K2'.out.none (K25.out.none ((Kp.refl _ w5).drewN q)))) (Nat.le_refl _) (fun _ _ h => h)))⟩)
    rw [hnm]
    clear hout hsh hfin hnm RA1 RAr OWN hkb hka hLL
    clear K25 K24 K2' K3' R4 D2' D3' F hev1 hR1 S1 L5'
    go_upto_region 16 with fail
    go_cut [24] (fun s wx => s = .int .i64 (n : Nat) ∧ w5 = wx)
    case first =>
      go_wp2
      go_meet
      case rel => exact ⟨rfl, rfl⟩
    case rest =>
      obtain ⟨rfl, rfl⟩ := hcut
      refine ‹∀ (a : Act) (w1 : World), Code.wp Tryd.prog _ (bodyPost Tryd.prog Tryd.f3 (Holds w)) a w1 → _› _ _ ?_
      exact tail11 MID.out _ _ _ _ _ _ _ _ _ _ _ _ _ _ _ _ _ _ _ _ _ _ _ _ _ _ _ _ _ _ _ _ _ _ _ _ _ _ _ _ _ _ _ _ _ _ _ _ _ _ _ _ _ _ _ _ _ _ _ _ _ _ _ _ _ _ _ _ _ _ _ _ _ _ _ _ _ _ _ _ _ _ _ _ _ _ _ _ _ _ _ _ _ _ _ _ _ _ _ _ _ _ _ _ _ _ _ _ _ _ _ _ _ _ _ _ _ _ _ _ _ _ _ _ _ _ _ _ _ _ _ _ _ _ _ _ _ _ _ _ _ _ _ _ _ _ _ _ _ _ _ _ _ _ _ _ _ _ _ _ _ _ _ _ _ _ _ _ _ _ _ _ _ _ _ _ _ _ _ _ _ _ _ _ _ _ _ _ _ _ _ _ _ _ _ _ _ _ _ _ _ _ _ _ _ _ _ _ _ _ _ _ _ _ _ _ _ _ _ _ _ _ _ _ _ _ _ _ _ _ _ _ _ _ _ _ _ _ _ _ _ _ _ _ _ _ _ _ _ _
end Go.Proofs.Qxb6614518aDoor
