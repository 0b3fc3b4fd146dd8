/-
  OURS. FnRecordLayerSendHandshakeFreshAndFull (f4): the walk.
-/
import Derived.Test.Qxb6614518aDoorTail4
import Derived.Laws.CopyOwn
import Derived.Deep.DeepCutAuto
namespace Go.Proofs.Qxb6614518aDoor
open Go Go.RowKit
set_option linter.unusedVariables false
theorem Tryd.size5 : (Tryd.prog.info? 5).map (·.size) = some 1 := by kernel_rfl

/-- How a law's arguments lie. -/
structure Args (w : World) (so : Option Addr) (n c : Nat) (ls : List (List Int)) (fso : Option Addr) (fl fc : Nat) (ys : List Int) (eT : Nat) (ea : Addr) : Prop where
  rows : RowsAt w so n c ls
  hn : n ≤ 140737488355328
  src : Src w fso fl fc ys
  hfl : fl ≤ 140737488355328
  ev : w.cell? ⟨1, 0, none⟩ = some (.iface eT (.pointer (some ea)))
  sz : 1 < w.heap.size

/-- The fragment's copy. -/
structure Frag (w : World) (fso : Option Addr) (fl : Nat) (ys : List Int) (wc : World) : Prop where
  src : Src wc fso fl fl ys
  kp : Kp (fun _ => False) w wc
  head : 0 < fl → ∃ fb, fso = some ⟨fb, 0, none⟩ ∧ fb < wc.heap.size

/-- Where the last cell of a new block has been laid. -/
theorem frag_of {w w1 w2 : World} {fl : Nat} {ys : List Int} {cur : List Value} (hl : ys.length = fl) (hc : cur.length = fl) (hk : Kp (fun _ => False) w w1)
    (hg : w2.heap[w.heap.size]? = some (.cells (splice cur 0 (ys.map (Value.int .u8))).toArray 5 (0, 0))) (hb : Below w.heap.size w w2) : Frag w (some ⟨w.heap.size, 0, none⟩) fl ys w2 := by
  have hs : splice cur 0 (ys.map (Value.int .u8)) = ys.map (Value.int .u8) := by
    simp only [splice, List.take_zero, List.nil_append, Nat.zero_add, List.length_map]
    rw [List.drop_eq_nil_of_le (by omega), List.append_nil]
  rw [hs] at hg
  have hlt := (Array.getElem?_eq_some_iff.1 hg).1
  refine ⟨⟨hl, (fun h => by cases h), fun a ha j z hz => ?_⟩, ⟨hb.os, hb.tape, hb.output, hb.size, fun k hk _ => hb.block k hk⟩, fun _ => ⟨_, rfl, hlt⟩⟩
  cases ha
  have hadd : (⟨w.heap.size, 0, none⟩ : Addr).add j = ⟨w.heap.size, j, none⟩ := by unfold Addr.add; split <;> simp_all
  rw [hadd, cell_of_row _ w.heap.size j _ 5 (0, 0) hg]
  simp [hz]

theorem kpo_from {a b c : World} {base : Nat} (h : Kp (fun _ => False) a b) (k : Kpo base b c) (hb : a.heap.size ≤ base) : Kp (fun _ => False) a c :=
  h.trans k (fun i hi ho => by have := ho.1; omega)

theorem Kp.none {a b c : World} (h : Kp (fun _ => False) a b) (k : Kp (fun _ => False) b c) : Kp (fun _ => False) a c := h.trans k (fun _ _ h => h)

theorem Dgv.form {w : World} {base : Nat} {v : Value} {vs : List Value} {ls : List (List Int)} {n : Nat} (h : Dgv w base v vs ls) (hn : ls.length = n) : ∃ so c, v = .slice so n c := by
  rcases h.row.2 with ⟨rfl, h0⟩ | ⟨g, cap, cur, rfl, _⟩
  · exact ⟨none, 0, by rw [← hn, h0]⟩
  · exact ⟨_, cap, by rw [hn]⟩

theorem Dgv.later {w w' : World} {base : Nat} {v : Value} {vs : List Value} {ls : List (List Int)} (h : Dgv w base v vs ls) (hk : Kp (fun _ => False) w w') : Dgv w' base v vs ls := h.kp hk (fun _ _ h => h) (fun _ _ _ _ h => h)

theorem RowsAt.each {w : World} {so : Option Addr} {n c : Nat} {ls : List (List Int)} (h : RowsAt w so n c ls) : ∀ l ∈ ls, l.length ≤ 140737488355328 := by
  intro l hl
  obtain ⟨i, hi, rfl⟩ := List.mem_iff_getElem.1 hl
  obtain ⟨b, o, a, m, c', _, _, h3, h4, _⟩ := h.rows i _ (List.getElem?_eq_getElem hi)
  rw [h3.len]
  exact h4

set_option maxRecDepth 100000 in
set_option maxHeartbeats 4000000 in
theorem law4 {w : World} {so fso : Option Addr} {n c fl fc : Nat} {ls : List (List Int)} {ys : List Int} {eT : Nat} {ea : Addr} (h : Args w so n c ls fso fl fc ys eT ea) (M : Msg) (hok : M.ok) (hs1 : M.sq ≤ 18446744073709551615) (hb : M.body = ys) (of : Int) :
    Calls Tryd.prog 4 #[.int .u64 M.ep, .int .u64 M.sq, .slice so n c, .int .u8 M.ty, .int .u32 M.ln, .int .u16 M.ms, .int .u32 of, .slice fso fl fc] w (Holds w) := by
  have hnn := fun (w : World) (a : Option Addr) (n c n' c' : Nat) => run_neq_slice_nil_any (P := Tryd.prog) w 26 5 a n c n' c' Tryd.underlying26
  obtain ⟨i0, hi, hz0, hz1, hz2⟩ := info_parts Tryd.info5
  have H := hide h
  have hn := h.hn
  have hfl := h.hfl
  have hok' := hide hok
  have hb' := hide hb
  have he0 := hok.he0
  have he1 := hok.he1
  have hs0 := hok.hs0
  clear h hok hb
  have T : Hid (∀ (W : World), Below w.heap.size w W → Holds w (.returned (.bool true)) W) := fun W h => ⟨rfl, h⟩
  go_enter Tryd.func4, Tryd.ntmps4
  go_wp2_with fail
  refine (bytes13_any H.out.rows hn hfl M.ep M.sq M.ty M.ln M.ms of).mono ?_
  rintro e w' ⟨b, rfl, rfl⟩
  cases b
  · go_wp2
    go_ret
    exact T.out _ (Below.refl _ _)
  by_cases hg1 : 65536 < n ∨ 1048576 < fl
  · by_cases hg2 : 65536 < n
    · go_wp2
      go_ret
      exact T.out _ (Below.refl _ _)
    · have hg3 : 1048576 < fl := by omega
      go_wp2
      go_ret
      exact T.out _ (Below.refl _ _)
  have hn' : n ≤ 65536 := by omega
  have hfl' : fl ≤ 1048576 := by omega
  clear hg1
  go_wp2_with fail
  refine (nest_any H.out.rows hn fl (by omega)).mono ?_
  rintro e w' ⟨b, rfl, rfl⟩
  cases b
  case true =>
    go_wp2
    go_ret
    exact T.out _ (Below.refl _ _)
  go_upto_if 62 with fail
  go_cut [7] (fun f wc => ∃ fso', f = .slice fso' fl fl ∧ Hid (Frag w fso' fl ys wc))
  case first =>
    cases fso with
    | none =>
      have h0 := H.out.src.none rfl
      obtain ⟨rfl, rfl⟩ := h0
      go_wp2
      go_meet
      case rel => exact ⟨none, rfl, H.out.src, Kp.refl _ _, fun h => by omega⟩
    | some fa =>
      go_upto_region 9 with (at_make; refine wpList_make_full _ rfl _ _ 26 rfl w.heap.size 5 i0 (.int .u8 0) 1 Tryd.underlying26 hi hz0 hz1 .i64 .i64 _ _ fl rfl rfl (by simp) (by simp) (by rw [hz2]; omega) (by unfold maxLen; omega) (Nat.le_refl _) ?_)
      intro w1 h1 h2
      have C : ∃ cur : List Value, cur.length = fl ∧ w1.heap[w.heap.size]? = some (.cells cur.toArray 5 (0, 0)) := by
        rcases h1.2 with ⟨hv, _⟩ | ⟨g, cap, cur, hv, _, hg, _, _, hsz, _⟩
        · cases hv
        · cases hv
          exact ⟨cur.toList, by simpa using hsz, by simpa using hg⟩
      obtain ⟨cur, hc1, hc2⟩ := C
      have G := hide (And.intro hc1 (And.intro hc2 (show Kp (fun _ => False) w w1 from (Kp.refl _ w).grown h2 (fun k hk => by cases hk))))
      clear h1 h2 hc1 hc2
      go_upto_region 9 with fail
      go_wp2_with (refine wpList_copy_splice rfl (.tmp 66) (.tmp 67) 26 26 rfl 5 Tryd.underlying26 Tryd.size5 (some ⟨w.heap.size, 0, none⟩) (some fa) fl fl fl fc rfl rfl w.heap.size 0 cur 5 G.out.2.1 (ys.map (Value.int .u8)) (by rw [List.length_map, H.out.src.len]; simp) (fun _ => ⟨rfl, fa, rfl, Src.vals (H.out.src.kp G.out.2.2 (fun _ _ h => h)) fa rfl⟩) (by rw [List.length_map, H.out.src.len, G.out.1]; omega) (ints_oneCell _ _) w.heap.size w (G.out.2.2.below (Nat.le_refl _) (fun _ _ h => h)) (Nat.le_refl _) ?_; intro w2 q1 q2)
      have F := hide (frag_of H.out.src.len G.out.1 G.out.2.2 q1.out q2)
      clear q1 q2
      go_wp2
      go_meet
      case rel => exact ⟨_, rfl, F⟩
  case rest =>
    obtain ⟨fso', rfl, F⟩ := hcut
    clear hnn hi hz0 hz1 hz2 i0
    have hR1 := hide (H.out.rows.kp F.out.kp)
    have hev1 := hide (show wc.cell? ⟨1, 0, none⟩ = some (.iface eT (.pointer (some ea))) by rw [F.out.kp.cell (p := ⟨1, 0, none⟩) (by exact H.out.sz) (fun h => h)]; exact H.out.ev)
    have hsz1 : 1 < wc.heap.size := Nat.lt_of_lt_of_le H.out.sz F.out.kp.size
    go_wp2_with fail
    refine (clones_any hR1.out hn').mono ?_
    rintro e w2 ⟨rv, rvs, rfl, D2, K2⟩
    obtain ⟨rso, rc, rfl⟩ := D2.form H.out.rows.len
    have D2' := hide D2
    have K2' := hide K2
    have hsz2 : wc.heap.size ≤ w2.heap.size := K2.size
    clear D2 K2
    go_wp2_with fail
    refine (clones_any (hR1.out.kp K2'.out) hn').mono ?_
    rintro e w3 ⟨iv, ivs, rfl, D3, K3⟩
    have D3' := hide D3
    have K3' := hide K3
    have hsz3 : w2.heap.size ≤ w3.heap.size := K3.size
    clear D3 K3
    go_wp2_with fail
    refine (new_any M.ep M.sq w3).mono ?_
    rintro e w4 ⟨rfl, L4, K4⟩
    have R4 := hide (show Ready M ls w4 w2.heap.size w3.heap.size iv ivs fso' fl eT ea from
      ⟨hok'.out, D3'.out.later K4, by rw [H.out.rows.len]; exact hn', H.out.rows.each, Nat.le_trans hsz3 K4.size, hsz3, L4, by
        rw [hb'.out]
        exact ((F.out.src.kp K2'.out (fun _ _ h => h)).kp K3'.out (fun _ _ h => h)).kp K4 (fun _ _ h => h), fun h => by
        obtain ⟨fb, e, h⟩ := F.out.head h
        exact ⟨fb, e, by omega⟩, by
        rw [K4.cell (p := ⟨1, 0, none⟩) (by show 1 < w3.heap.size; omega) (fun h => h), K3'.out.cell (p := ⟨1, 0, none⟩) (by show 1 < w2.heap.size; omega) (fun h => h), K2'.out.cell (p := ⟨1, 0, none⟩) hsz1 (fun h => h)]
        exact hev1.out, by omega⟩)
    have K24 := hide (K3'.out.none K4)
    clear L4 K4
    go_wp2_with fail
    refine (door_any R4.out of).mono ?_
    rintro e w5 ⟨o1v, o1s, k1, er1, rfl, D5, L5, K5, hj1, hc1⟩
    obtain ⟨o1, c1, rfl⟩ := D5.form rfl
    have K25 := hide (kpo_from K24.out K5 (Nat.le_refl _))
    have S1 := hide (And.intro D5 (And.intro hj1 hc1))
    have L5' := hide L5
    clear D5 L5 K5 hj1 hc1
    go_wp2_with fail
    refine (seq_any w3.heap.size M.ep (M.sq + k1) w5 L5'.out).mono ?_
    rintro e w' ⟨rfl, rfl⟩
    go_wp2_with fail
    refine (new_any M.ep M.sq w5).mono ?_
    rintro e w6 ⟨rfl, L6, K6⟩
    have hsz5 : w2.heap.size ≤ w5.heap.size := K25.out.size
    have R6 := hide (show Ready M [] w6 w5.heap.size w5.heap.size (.slice none 0 0) [] fso' fl eT ea from
      ⟨hok'.out, ⟨World.ownsRow_nil _ _ _ _, (fun i u l hu => by simp at hu), (fun i j u u' q _ hu => by simp at hu)⟩, by simp, by simp, K6.size, Nat.le_refl _, L6, by
        rw [hb'.out]
        exact ((F.out.src.kp K2'.out (fun _ _ h => h)).kp K25.out (fun _ _ h => h)).kp K6 (fun _ _ h => h), fun h => by
        obtain ⟨fb, e, h⟩ := F.out.head h
        exact ⟨fb, e, by omega⟩, by
        rw [K6.cell (p := ⟨1, 0, none⟩) (by show 1 < w5.heap.size; omega) (fun h => h), K25.out.cell (p := ⟨1, 0, none⟩) (by show 1 < w2.heap.size; omega) (fun h => h), K2'.out.cell (p := ⟨1, 0, none⟩) hsz1 (fun h => h)]
        exact hev1.out, by omega⟩)
    have K56 := hide K6
    clear L6 K6
    go_wp2_with fail
    refine (door_any R6.out of).mono ?_
    rintro e W ⟨o2v, o2s, k2, er2, rfl, D7, L7, K7, hj2, hc2⟩
    obtain ⟨o2, c2, rfl⟩ := D7.form rfl
    have K57 := hide (kpo_from K56.out K7 (Nat.le_refl _))
    have L7' := hide L7
    have S2 := hide (And.intro D7 (And.intro hj2 hc2))
    clear D7 L7 K7 hj2 hc2
    go_wp2_with fail
    refine (seq_any w5.heap.size M.ep (M.sq + k2) W L7'.out).mono ?_
    rintro e w' ⟨rfl, rfl⟩
    have FIN := hide (T.out W (Kp.below (F.out.kp.none (K2'.out.none (K25.out.none K57.out))) (Nat.le_refl _) (fun _ _ h => h)))
    have hLL : M.body.length = fl := by rw [hb'.out]; exact H.out.src.len
    have hfull0 : Full M [] := fun l h => by cases h
    have hF2 := out_full hfull0 (show Out M [] k2 er2 .nilIface (.iface eT (.pointer (some ea))) from S2.out.2)
    have hst2 := st_full hfull0 k2 S2.out.2.1
    rw [hLL] at hF2
    obtain ⟨hk2, her2⟩ := hF2
    have hout2 : (M.st [] k2).1 = M.fr 0 0 k2 := by rw [hst2]; rfl
    have hlen2 : (M.st [] k2).1.length = k2 := by rw [hout2, M.length_fr]
    have RA2 : RowsAt W o2 k2 c2 (M.fr 0 0 k2) := by
      have h := S2.out.1
      rw [hlen2, hout2] at h
      exact h.rowsAt (fun l hl => by
        have := st_each M [] (B := 140737488355328) (by simp) (by decide) k2
        rw [hout2] at this
        exact this l hl)
    have RA1 : RowsAt W o1 (M.st ls k1).1.length c1 (M.st ls k1).1 := (S1.out.1.later K57.out).rowsAt (st_each M ls H.out.rows.each (by decide) k1)
    have RAr : RowsAt W rso n rc ls := (D2'.out.later (K25.out.none K57.out)).rowsAt H.out.rows.each
    rw [hlen2]
    have hl1 := st_length M ls k1
    rw [H.out.rows.len] at hl1
    have MID := hide (show Mid M ls w W eT ea rso n rc o1 (M.st ls k1).1.length c1 k1 er1 o2 k2 c2 er2 fl (needN fl) from
      ⟨hLL, hfl', hs0, hs1, hn', RAr, RA1, hl1, S1.out.2, RA2, rfl, hk2.symm, by rw [← hk2] at her2; exact her2, fun q => T.out _ ((Kp.below (F.out.kp.none (K2'.out.none (K25.out.none (K57.out.none ((Kp.refl _ W).drewN q))))) (Nat.le_refl _) (fun _ _ h => h)))⟩)
    clear hfull0 hst2 her2 hlen2 hk2 hout2 RA2 RA1 RAr hl1 hLL
    clear K57 K25 K24 K56 K2' K3' R4 R6 D2' D3' F hev1 hR1 S1 S2 L5' L7'
    go_upto_region 20 with fail
    go_cut [29] (fun s wx => s = .int .i64 1 ∧ W = wx)
    case first =>
      go_wp2
      go_meet
      case rel => exact ⟨rfl, rfl⟩
    case rest =>
      obtain ⟨rfl, rfl⟩ := hcut
      refine ‹∀ (a : Act) (w1 : World), Code.wp Tryd.prog _ (bodyPost Tryd.prog Tryd.f4 (Holds w)) a w1 → _› _ _ ?_
      exact tail15 MID.out _ _ _ _ _ _ _ _ _ _ _ _ _ _ _ _ _ _ _ _ _ _ _ _ _ _ _ _ _ _ _ _ _ _ _ _ _ _ _ _ _ _ _ _ _ _ _ _ _ _ _ _ _ _ _ _ _ _ _ _ _ _ _ _ _ _ _ _ _ _ _ _ _ _ _ _ _ _ _ _ _ _ _ _ _ _ _ _ _ _ _ _ _ _ _ _ _ _ _ _ _ _ _ _ _ _ _ _ _ _ _ _ _ _ _ _ _ _ _ _ _ _ _ _ _ _ _ _ _ _ _ _ _ _ _ _ _ _ _ _ _ _ _ _ _ _ _ _ _ _ _ _ _ _ _ _ _ _ _ _ _ _ _ _ _ _ _ _ _ _ _ _ _ _ _ _ _ _ _ _ _ _ _ _ _ _ _ _ _ _ _ _ _ _ _ _ _ _ _ _ _ _ _ _ _ _ _ _ _ _ _ _ _ _ _ _ _ _ _ _ _ _ _ _ _ _ _ _ _ _ _ _ _ _ _ _ _ _ _ _ _ _ _ _ _ _ _ _ _ _ _ _ _ _ _ _ _ _ _ _ _ _ _ _ _ _ _ _ _ _ _ _ _
end Go.Proofs.Qxb6614518aDoor
