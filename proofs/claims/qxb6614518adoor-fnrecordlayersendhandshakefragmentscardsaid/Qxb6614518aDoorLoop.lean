/-
  OURS. writeState.sendHandshake (f19): the loop over the fragments.
-/
import Derived.Test.Qxb6614518aDoorSend2
namespace Go.Proofs.Qxb6614518aDoor
open Go Go.RowKit
set_option linter.unusedVariables false

/-- A whole list's bounds. -/
structure Fine (ls : List (List Int)) : Prop where
  len : ls.length ≤ 4000000
  each : ∀ l ∈ ls, l.length ≤ 140737488355328

/-- The loop's relation. -/
structure Inv (M : Msg) (ref : List (List Int)) (w0 : World) (base lb : Nat) (wr : World) (d : Value) (k : Nat) (vs : List Value) : Prop where
  dg : Dgv wr base d vs (M.st ref k).1
  ls : LS wr lb M.ep (M.sq + k)
  kp : Kpo base w0 wr
  go : ∀ j, 1 ≤ j → j ≤ k → (M.st ref j).2 < M.body.length
  sq : k = 0 ∨ M.sq + k ≤ 281474976710656
  kle : k ≤ (M.st ref k).2

/-- A block of another make stays. -/
theorem Kpo.other {base : Nat} {w w1 : World} (h : Kpo base w w1) {b : Nat} {cs : Array Value} {t : TypeId} (hb : w.heap[b]? = some (.cells cs t (0, 0))) (ht : t ≠ 5 ∧ t ≠ 26 ∧ t ≠ 51) (j : Nat) : w1.cell? ⟨b, j, none⟩ = cs[j]? := by
  have hl : b < w.heap.size := (Array.getElem?_eq_some_iff.1 hb).1
  rw [Kp.cell (p := ⟨b, j, none⟩) h hl (fun ho => by
    obtain ⟨_, cs', t', m, h1, h2⟩ := ho
    rw [hb] at h1
    simp at h1
    obtain ⟨_, h1, _⟩ := h1
    subst h1
    obtain ⟨h5, h6, h7⟩ := ht
    rcases h2 with h2 | h2 | h2
    · exact h5 h2
    · exact h6 h2
    · exact h7 h2), cell_of_row w b j cs t (0, 0) hb]


theorem step_length (ls : List (List Int)) (r : List Int) : (step ls r).length ≤ ls.length + 1 := by
  unfold step
  split
  · simp
  · split <;> simp

theorem st_length (M : Msg) (ref : List (List Int)) : ∀ k, (M.st ref k).1.length ≤ ref.length + k
  | 0 => by simp [Msg.st]
  | k + 1 => by
    have h1 := st_length M ref k
    have h2 := step_length (M.st ref k).1 (M.rc k (M.st ref k).2 (min (M.body.length - (M.st ref k).2) (room (M.st ref k).1)))
    simp only [Msg.st]
    omega

theorem step_each {ls : List (List Int)} {r : List Int} {B : Nat} (h : ∀ l ∈ ls, l.length ≤ B) (hr : r.length ≤ 1500) (hB : 1500 ≤ B) : ∀ l ∈ step ls r, l.length ≤ B := by
  intro l hl
  unfold step at hl
  split at hl
  · simp at hl
    rcases hl with hl | hl
    · exact h l hl
    · subst hl; omega
  · split at hl
    · rcases List.mem_or_eq_of_mem_set hl with hl | hl
      · exact h l hl
      · subst hl; simp; omega
    · simp at hl
      rcases hl with hl | hl
      · exact h l hl
      · subst hl; omega

theorem st_each (M : Msg) (ref : List (List Int)) {B : Nat} (h : ∀ l ∈ ref, l.length ≤ B) (hB : 1500 ≤ B) : ∀ k, ∀ l ∈ (M.st ref k).1, l.length ≤ B
  | 0 => h
  | k + 1 => by
    have hl := M.st_le ref k
    have hr := room_pos (M.st ref k).1
    exact step_each (st_each M ref h hB k) (by rw [M.length_rc _ _ _ (by omega)]; omega) hB

theorem Ow.src {w : World} {base : Nat} {so : Option Addr} {m c : Nat} {zs : List Int} (h : Ow w base (.slice so m c) zs) : Src w so m c zs := by
  have hlen := h.1
  rcases h.2 with ⟨hv, h0⟩ | ⟨g, cap, cur, hv, hb, hg, r⟩
  · cases hv
    exact ⟨h0, fun _ => ⟨rfl, rfl⟩, (fun a ha => by cases ha)⟩
  · cases hv
    refine ⟨rfl, (fun h => by cases h), fun a ha j z hz => ?_⟩
    cases ha
    exact h.cells rfl j _ (by rw [List.getElem?_map, hz]; rfl)

/-- A part of a slice that is read. -/
theorem src_cut {w : World} {fb L bc : Nat} {M : Msg} (h : Src w (some ⟨fb, 0, none⟩) L bc M.body) (o n : Nat) (ho : o + n ≤ L) : Src w (some ⟨fb, o, none⟩) n (bc - o) (M.part o n) := by
  have hl := h.len
  refine ⟨M.length_part o n (by omega), (fun h => by cases h), fun a ha j z hz => ?_⟩
  cases ha
  have hj : j < n := by
    have := (List.getElem?_eq_some_iff.1 hz).1
    rw [M.length_part o n (by omega)] at this
    exact this
  rw [Msg.part, List.getElem?_take, if_pos hj, List.getElem?_drop] at hz
  have := h.cells _ rfl (o + j) z hz
  have e1 : (⟨fb, 0, none⟩ : Addr).add (o + j) = ⟨fb, o + j, none⟩ := by unfold Addr.add; split <;> simp_all
  have e2 : (⟨fb, o, none⟩ : Addr).add j = ⟨fb, o + j, none⟩ := by unfold Addr.add; split <;> simp_all
  rw [e2, ← e1]
  exact this

/-- What a call of sendHandshake leaves. -/
def Sent (M : Msg) (ref : List (List Int)) (base lb eT : Nat) (ea : Addr) (w : World) (e : Ending) (w' : World) : Prop :=
  ∃ dv' vs' k er, e = .returned (.tuple #[dv', er]) ∧ Dgv w' base dv' vs' (M.st ref k).1 ∧ LS w' lb M.ep (M.sq + k) ∧ Kpo base w w' ∧ (∀ j, 1 ≤ j → j < k → (M.st ref j).2 < M.body.length) ∧
    ((er = .nilIface ∧ 1 ≤ k ∧ (M.st ref k).2 = M.body.length ∧ M.sq + k ≤ 281474976710656) ∨
     (er = .iface eT (.pointer (some ea)) ∧ 281474976710655 < M.sq + k ∧ (k = 0 ∨ ((M.st ref k).2 < M.body.length ∧ M.sq + k = 281474976710656))))

theorem st_next (M : Msg) (ref : List (List Int)) {k o L rm n : Nat} {lsk : List (List Int)} (h1 : (M.st ref k).2 = o) (h2 : (M.st ref k).1 = lsk) (h3 : room lsk = rm) (h4 : M.body.length = L) (hn : n = min (L - o) rm) :
    M.st ref (k + 1) = (step lsk (rec1 M.ep (M.sq + k) (hs1 M.ty M.ln M.ms o (M.part o n))), o + n) := by
  rw [Msg.st, h1, h2, h3, h4, ← hn]
  rfl

theorem kpo_quiet {base : Nat} {w w' : World} (h : Kp (fun k => Value.ownBlock (.slice none 0 0) = some k) w w') : Kpo base w w' := Kpo.of h (fun i _ h => by simp [Value.ownBlock] at h)


set_option maxRecDepth 100000 in
set_option maxHeartbeats 4000000 in
theorem sh_pos (M : Msg) (ref : List (List Int)) (lb fb bc : Nat) (of : Int) (dv : Value) (vs : List Value) (w : World) (base : Nat) (L : Nat) (hL : M.body.length = L) (hL0 : 0 < L) (hLb : L ≤ 1048576) (hbc : L ≤ bc)
    (hD : Dgv w base dv vs ref) (href : ref.length ≤ 65536) (hf : ∀ l ∈ ref, l.length ≤ 140737488355328) (hb : base ≤ w.heap.size) (hlb : base ≤ lb) (hls : LS w lb M.ep M.sq)
    (he0 : 0 ≤ M.ep) (he1 : M.ep ≤ 18446744073709551615) (hs0 : 0 ≤ M.sq) (t0 : 0 ≤ M.ty) (t1 : M.ty ≤ 255) (l0 : 0 ≤ M.ln) (l1 : M.ln ≤ 4294967295) (m0 : 0 ≤ M.ms) (m1 : M.ms ≤ 65535)
    (hsrc : Src w (some ⟨fb, 0, none⟩) L bc M.body) (hfb : fb < base) (eT : Nat) (ea : Addr) (hev : w.cell? ⟨1, 0, none⟩ = some (.iface eT (.pointer (some ea)))) (hb1 : 1 < base) :
    Calls Tryd.prog 19 #[.pointer (some ⟨lb, 0, none⟩), dv, .agg #[.int .u8 M.ty, .int .u32 M.ln, .int .u16 M.ms, .int .u32 of, .slice (some ⟨fb, 0, none⟩) L bc]] w (Sent M ref base lb eT ea w) := by
  have hls' := hide hls
  have hD' := hide hD
  have hsrc' := hide hsrc
  have hf' := hide hf
  have hL' := hide hL
  have hev' := hide hev
  clear hls hD hsrc hf hL hev
  have hprog : ∀ n, (M.st ref n).2 ≤ L := fun n => by rw [← unhide hL']; exact M.st_le ref n
  have hprog' := hide hprog
  clear hprog
  generalize hep : M.ep = ep at *
  generalize hty : M.ty = ty at *
  generalize hln : M.ln = ln at *
  generalize hms : M.ms = ms at *
  generalize hsq : M.sq = sq at *
  have E := hide (And.intro hep (And.intro hty (And.intro hln (And.intro hms hsq))))
  clear hep hty hln hms hsq
  go_enter Tryd.func19, Tryd.ntmps19
  go_wp2_with fail
  go_loopw [1, 9] (fun d o wr => ∃ (k : Nat) (vs : List Value), o = .int .i64 ((M.st ref k).2 : Nat) ∧ Hid (Inv M ref (w.alloc (.cells #[.int .u8 ty, .int .u32 ln, .int .u16 ms, .int .u32 of, .slice (some ⟨fb, 0, none⟩) L bc] 55)) base lb wr d k vs)) (fun _ o _ => L - (intOf o).toNat)
  case atStart =>
    refine ⟨0, vs, rfl, ?_⟩
    have hk0 : Kp (fun _ => False) w (w.alloc (.cells #[.int .u8 ty, .int .u32 ln, .int .u16 ms, .int .u32 of, .slice (some ⟨fb, 0, none⟩) L bc] 55)) := (Kp.refl _ w).alloc _
    exact ⟨hD'.out.kp hk0 (fun _ _ h => h) (fun _ _ _ _ h => h), by have := hls'.out.kp hk0 (fun h => h); rw [E.out.1, E.out.2.2.2.2]; simpa using this, Kpo.refl _ _, fun j h1 h2 => by omega, .inl rfl, Nat.zero_le _⟩
  case round =>
    obtain ⟨k, us, rfl, hI⟩ := hrel
    have hst := hide (show M.st ref (k + 1) = _ from rfl)
    have hfine := st_each M ref hf'.out (by decide) k
    have hlen := st_length M ref k
    have hkle := hI.out.kle
    have hoL : (M.st ref k).2 < L := by
      rw [← unhide hL']
      by_cases h : k = 0
      · subst h; show 0 < M.body.length; rw [unhide hL']; exact hL0
      · exact hI.out.go k (by omega) (Nat.le_refl _)
    generalize hok : (M.st ref k).2 = o at hoL hkle ⊢
    have hok' := hide hok
    clear hok
    generalize hlk : (M.st ref k).1 = lsk at hfine hlen
    have hlk' := hide hlk
    clear hlk
    have hrm := room_pos lsk
    generalize hr : room lsk = rm at hrm
    have hr' := hide hr
    clear hr
    have hDk := hide (show Dgv wr base u1 us lsk by rw [← unhide hlk']; exact hI.out.dg)
    have hLk := hide (show LS wr lb ep (sq + k) by rw [← E.out.1, ← E.out.2.2.2.2]; exact hI.out.ls)
    have hbox := fun j => (Kpo.other hI.out.kp (heap_alloc_new w _) (by decide) j)
    have b0 := hbox 0
    have b1 := hbox 1
    have b2 := hbox 2
    clear hbox
    simp at b0 b1 b2
    have c2 := hLk.out.cell2
    have hz : w.heap.size < wr.heap.size := by have := Kp.size hI.out.kp; simp at this; omega
    have hsrcr := hide (show Src wr (some ⟨fb, 0, none⟩) L bc M.body from (hsrc'.out.kp ((Kp.refl (fun _ => False) w).alloc _) (fun _ _ h => h)).kp hI.out.kp (fun a ha ho => by cases ha; have := ho.1; simp at this; omega))
    have hevr := hide (show wr.cell? ⟨1, 0, none⟩ = some (.iface eT (.pointer (some ea))) by rw [Kp.cell (p := ⟨1, 0, none⟩) hI.out.kp (by simp; omega) (fun ho => by have := ho.1; simp at this; omega), World.cell?_alloc_lt _ _ _ (by show 1 < w.heap.size; omega)]; exact hev'.out)
    have hfine' := hide hfine
    clear hfine
    have HR := hide (show Calls Tryd.prog 20 #[.pointer (some ⟨lb, 0, none⟩), u1] wr fun e w' => e = .returned (.int .i64 (rm : Nat)) ∧ wr = w' by
      rw [← unhide hr']
      exact room_any lb _ us lsk _ base hDk.out (by omega) c2)
    by_cases hcase : L - o ≤ rm
    · obtain ⟨n, rfl⟩ : ∃ n, L = o + n := ⟨L - o, by omega⟩
      have hc1 : (n : Int) ≤ rm := by omega
      have K0 : Kp (fun k => Value.ownBlock (.slice none 0 0) = some k) wr ((wr.alloc (.cells #[.int .u8 ty, .int .u32 ln, .int .u16 ms, .int .u32 o, .slice (some ⟨fb, o, none⟩) n (bc - o)] 55)).drew) := ((Kp.refl _ wr).alloc _).drew
      have hS := hide (st_next M ref (n := n) (unhide hok') (unhide hlk') (unhide hr') (unhide hL') (by omega))
      go_wp2_with fail
      refine (unhide HR).mono ?_
      rintro e w' ⟨rfl, rfl⟩
      go_wp2_with fail
      go_region
      go_wp2_with fail
      refine (happ_any (.slice none 0 0) ty ln ms o (some ⟨fb, o, none⟩) n (bc - o) [] (M.part o n) _ base (nil_ow _ _) (by simp; omega) (by simp) t0 t1 l0 l1 m0 m1 (by omega) (by omega) ((src_cut hsrcr.out o n (by omega)).kp K0 (fun _ _ h => by simp [Value.ownBlock] at h)) (nil_off _) (by omega)).mono ?_
      rintro e w1 ⟨v1, rfl, A1⟩
      rw [List.nil_append] at A1
      replace A1 := App.pre K0 A1
      clear K0
      obtain ⟨so, m, c, rfl⟩ := A1.own.form3
      have hm : m = 12 + n := by rw [← A1.own.src.len, length_hs1, M.length_part o n (by rw [unhide hL']; omega)]
      have hS1 := A1.own.src
      have hD1 : Dgv w1 base u1 us lsk := hDk.out.kp A1.kp (fun _ _ h => by simp [Value.ownBlock] at h) (fun _ _ _ _ h => by simp [Value.ownBlock] at h)
      have hL1 : LS w1 lb ep (sq + k) := hLk.out.kp A1.kp (fun h => by simp [Value.ownBlock] at h)
      have hz1 : wr.heap.size ≤ w1.heap.size := A1.kp.size
      have hev1 : w1.cell? ⟨1, 0, none⟩ = some (.iface eT (.pointer (some ea))) := by rw [A1.kp.cell (p := ⟨1, 0, none⟩) (by show 1 < wr.heap.size; omega) (fun h => by simp [Value.ownBlock] at h)]; exact hevr.out
      have hoff : ∀ u ∈ us, ∀ a, so = some a → ¬ u.ownBlock = some a.block := fun u hu a ha hb => by
        subst ha
        obtain ⟨l, hl⟩ := hDk.out.olds u hu
        have h1 := (hl.lt _ hb).2
        rcases A1.near a.block rfl with h2 | h2
        · simp [Value.ownBlock] at h2
        · omega
      have K1 : Kpo base wr w1 := kpo_quiet A1.kp
      have G := hide (And.intro hS1 (And.intro hD1 (And.intro hL1 (And.intro hev1 (And.intro hoff K1)))))
      clear A1 hS1 hD1 hL1 hev1 hoff K1
      have hm' := hide hm
      have hm2 : m ≤ 65535 := by omega
      clear hm
      go_wp2_with fail
      by_cases hmax : sq + k ≤ 281474976710655
      · refine (send_any lb u1 us lsk ep (sq + k) so m c _ w1 base G.out.2.1 (by omega) (by omega) he0 he1 (by omega) hmax hfine'.out G.out.1 G.out.2.2.2.2.1 hm2 G.out.2.2.1 hlb).mono ?_
        rintro e w2 ⟨d2, us2, rfl, D2, K2, L2⟩
        have LL : LS w2 lb M.ep (M.sq + ((k + 1 : Nat) : Int)) := by
          rw [E.out.1, E.out.2.2.2.2, show sq + ((k + 1 : Nat) : Int) = sq + k + 1 by omega]
          exact L2
        have KK : Kpo base wr w2 := G.out.2.2.2.2.2.trans K2
        have F := hide (show Sent M ref base lb eT ea w (.returned (.tuple #[d2, .nilIface])) w2 from
          ⟨d2, us2, k + 1, _, rfl, by rw [unhide hS, E.out.1, E.out.2.1, E.out.2.2.1, E.out.2.2.2.1, E.out.2.2.2.2]; exact D2, LL, (kpo_quiet ((Kp.refl _ w).alloc _)).trans (hI.out.kp.trans KK), fun j h1 h2 => hI.out.go j h1 (by omega), .inl ⟨rfl, by omega, by rw [unhide hS, unhide hL'], by rw [E.out.2.2.2.2]; omega⟩⟩)
        clear D2 K2 L2 LL KK
        go_wp2
        go_ret2
        exact F.out
      · refine (send_none lb u1 us lsk ep (sq + k) so m c w1 base G.out.2.1 (by omega) (by omega) hfine'.out eT ea G.out.2.2.2.1 (by omega) hm2 G.out.2.2.1 hlb).mono ?_
        rintro e w2 ⟨rfl, D2, K2, L2⟩
        have KK : Kpo base wr w2 := G.out.2.2.2.2.2.trans K2
        have F := hide (show Sent M ref base lb eT ea w (.returned (.tuple #[u1, .iface eT (.pointer (some ea))])) w2 from
          ⟨u1, us, k, _, rfl, by rw [unhide hlk']; exact D2, by rw [E.out.1, E.out.2.2.2.2]; exact L2, (kpo_quiet ((Kp.refl _ w).alloc _)).trans (hI.out.kp.trans KK), fun j h1 h2 => hI.out.go j h1 (by omega), .inr ⟨rfl, by rw [E.out.2.2.2.2]; omega, by
            by_cases h : k = 0
            · exact .inl h
            · refine .inr ⟨hI.out.go k (by omega) (Nat.le_refl _), ?_⟩
              rcases hI.out.sq with h' | h'
              · omega
              · rw [E.out.2.2.2.2] at h' ⊢; omega⟩⟩)
        clear D2 K2 L2 KK
        go_wp2
        go_ret2
        exact F.out
    · have hc1 : (rm : Int) < L - o := by omega
      have K0 : Kp (fun k => Value.ownBlock (.slice none 0 0) = some k) wr ((wr.alloc (.cells #[.int .u8 ty, .int .u32 ln, .int .u16 ms, .int .u32 o, .slice (some ⟨fb, o, none⟩) rm (bc - o)] 55)).drew) := ((Kp.refl _ wr).alloc _).drew
      have hS := hide (st_next M ref (n := rm) (unhide hok') (unhide hlk') (unhide hr') (unhide hL') (by omega))
      go_wp2_with fail
      refine (unhide HR).mono ?_
      rintro e w' ⟨rfl, rfl⟩
      go_wp2_with fail
      go_region
      go_wp2_with fail
      refine (happ_any (.slice none 0 0) ty ln ms o (some ⟨fb, o, none⟩) rm (bc - o) [] (M.part o rm) _ base (nil_ow _ _) (by simp; omega) (by simp) t0 t1 l0 l1 m0 m1 (by omega) (by omega) ((src_cut hsrcr.out o rm (by omega)).kp K0 (fun _ _ h => by simp [Value.ownBlock] at h)) (nil_off _) (by omega)).mono ?_
      rintro e w1 ⟨v1, rfl, A1⟩
      rw [List.nil_append] at A1
      replace A1 := App.pre K0 A1
      clear K0
      obtain ⟨so, m, c, rfl⟩ := A1.own.form3
      have hm : m = 12 + rm := by rw [← A1.own.src.len, length_hs1, M.length_part o rm (by rw [unhide hL']; omega)]
      have hS1 := A1.own.src
      have hD1 : Dgv w1 base u1 us lsk := hDk.out.kp A1.kp (fun _ _ h => by simp [Value.ownBlock] at h) (fun _ _ _ _ h => by simp [Value.ownBlock] at h)
      have hL1 : LS w1 lb ep (sq + k) := hLk.out.kp A1.kp (fun h => by simp [Value.ownBlock] at h)
      have hz1 : wr.heap.size ≤ w1.heap.size := A1.kp.size
      have hev1 : w1.cell? ⟨1, 0, none⟩ = some (.iface eT (.pointer (some ea))) := by rw [A1.kp.cell (p := ⟨1, 0, none⟩) (by show 1 < wr.heap.size; omega) (fun h => by simp [Value.ownBlock] at h)]; exact hevr.out
      have hoff : ∀ u ∈ us, ∀ a, so = some a → ¬ u.ownBlock = some a.block := fun u hu a ha hb => by
        subst ha
        obtain ⟨l, hl⟩ := hDk.out.olds u hu
        have h1 := (hl.lt _ hb).2
        rcases A1.near a.block rfl with h2 | h2
        · simp [Value.ownBlock] at h2
        · omega
      have K1 : Kpo base wr w1 := kpo_quiet A1.kp
      have G := hide (And.intro hS1 (And.intro hD1 (And.intro hL1 (And.intro hev1 (And.intro hoff K1)))))
      clear A1 hS1 hD1 hL1 hev1 hoff K1
      have hm' := hide hm
      have hm2 : m ≤ 65535 := by omega
      clear hm
      go_wp2_with fail
      by_cases hmax : sq + k ≤ 281474976710655
      · refine (send_any lb u1 us lsk ep (sq + k) so m c _ w1 base G.out.2.1 (by omega) (by omega) he0 he1 (by omega) hmax hfine'.out G.out.1 G.out.2.2.2.2.1 hm2 G.out.2.2.1 hlb).mono ?_
        rintro e w2 ⟨d2, us2, rfl, D2, K2, L2⟩
        have LL : LS w2 lb M.ep (M.sq + ((k + 1 : Nat) : Int)) := by
          rw [E.out.1, E.out.2.2.2.2, show sq + ((k + 1 : Nat) : Int) = sq + k + 1 by omega]
          exact L2
        have KK : Kpo base wr w2 := G.out.2.2.2.2.2.trans K2
        have F := hide (show Inv M ref (w.alloc (.cells #[.int .u8 ty, .int .u32 ln, .int .u16 ms, .int .u32 of, .slice (some ⟨fb, 0, none⟩) L bc] 55)) base lb w2 d2 (k + 1) us2 from
          ⟨by rw [unhide hS, E.out.1, E.out.2.1, E.out.2.2.1, E.out.2.2.2.1, E.out.2.2.2.2]; exact D2, LL, hI.out.kp.trans KK, fun j h1 h2 => by
            by_cases h : j = k + 1
            · subst h; rw [unhide hS, unhide hL']; show o + rm < L; omega
            · exact hI.out.go j h1 (by omega), .inr (by rw [E.out.2.2.2.2]; omega), by rw [unhide hS]; show k + 1 ≤ o + rm; omega⟩)
        have hS2 := hide (show (M.st ref (k + 1)).2 = o + rm by rw [unhide hS])
        clear D2 K2 L2 LL KK
        go_wp2
        go_roundw
        case rel => exact ⟨k + 1, us2, by rw [unhide hS2]; go_num, F⟩
        case measure => simp [intOf]; omega
      · refine (send_none lb u1 us lsk ep (sq + k) so m c w1 base G.out.2.1 (by omega) (by omega) hfine'.out eT ea G.out.2.2.2.1 (by omega) hm2 G.out.2.2.1 hlb).mono ?_
        rintro e w2 ⟨rfl, D2, K2, L2⟩
        have KK : Kpo base wr w2 := G.out.2.2.2.2.2.trans K2
        have F := hide (show Sent M ref base lb eT ea w (.returned (.tuple #[u1, .iface eT (.pointer (some ea))])) w2 from
          ⟨u1, us, k, _, rfl, by rw [unhide hlk']; exact D2, by rw [E.out.1, E.out.2.2.2.2]; exact L2, (kpo_quiet ((Kp.refl _ w).alloc _)).trans (hI.out.kp.trans KK), fun j h1 h2 => hI.out.go j h1 (by omega), .inr ⟨rfl, by rw [E.out.2.2.2.2]; omega, by
            by_cases h : k = 0
            · exact .inl h
            · refine .inr ⟨hI.out.go k (by omega) (Nat.le_refl _), ?_⟩
              rcases hI.out.sq with h' | h'
              · omega
              · rw [E.out.2.2.2.2] at h' ⊢; omega⟩⟩)
        clear D2 K2 L2 KK
        go_wp2
        go_ret2
        exact F.out
end Go.Proofs.Qxb6614518aDoor
