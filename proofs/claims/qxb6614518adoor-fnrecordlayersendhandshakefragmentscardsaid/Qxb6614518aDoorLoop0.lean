/-
  OURS. writeState.sendHandshake (f19) for an empty body.
-/
import Derived.Test.Qxb6614518aDoorLoop
namespace Go.Proofs.Qxb6614518aDoor
open Go Go.RowKit
set_option linter.unusedVariables false

set_option maxRecDepth 100000 in
set_option maxHeartbeats 4000000 in
theorem sh_zero (M : Msg) (ref : List (List Int)) (lb : Nat) (fso : Option Addr) (of : Int) (dv : Value) (vs : List Value) (w : World) (base : Nat) (hL : M.body = [])
    (hD : Dgv w base dv vs ref) (href : ref.length ≤ 65536) (hf : ∀ l ∈ ref, l.length ≤ 140737488355328) (hb : base ≤ w.heap.size) (hlb : base ≤ lb) (hls : LS w lb M.ep M.sq)
    (he0 : 0 ≤ M.ep) (he1 : M.ep ≤ 18446744073709551615) (hs0 : 0 ≤ M.sq) (t0 : 0 ≤ M.ty) (t1 : M.ty ≤ 255) (l0 : 0 ≤ M.ln) (l1 : M.ln ≤ 4294967295) (m0 : 0 ≤ M.ms) (m1 : M.ms ≤ 65535)
    (eT : Nat) (ea : Addr) (hev : w.cell? ⟨1, 0, none⟩ = some (.iface eT (.pointer (some ea)))) (hb1 : 1 < base) :
    Calls Tryd.prog 19 #[.pointer (some ⟨lb, 0, none⟩), dv, .agg #[.int .u8 M.ty, .int .u32 M.ln, .int .u16 M.ms, .int .u32 of, .slice fso 0 0]] w (Sent M ref base lb eT ea w) := by
  have hE := hide (And.intro hL (And.intro hD (And.intro hf (And.intro hls hev))))
  have c2 := hls.cell2
  clear hL hD hf hls hev
  have hrm := room_pos ref
  generalize hep : M.ep = ep at *
  generalize hty : M.ty = ty at *
  generalize hln : M.ln = ln at *
  generalize hms : M.ms = ms at *
  generalize hsq : M.sq = sq at *
  have E := hide (And.intro hep (And.intro hty (And.intro hln (And.intro hms hsq))))
  clear hep hty hln hms hsq
  generalize hr : room ref = rm at hrm
  have hr' := hide hr
  clear hr
  have c2' : ∀ o, (w.alloc o).cell? ⟨lb, 2, none⟩ = some .nilIface := fun o => by rw [World.cell?_alloc_lt _ _ _ (by exact hE.out.2.2.2.1.lt)]; exact c2
  go_enter Tryd.func19, Tryd.ntmps19
  go_wp2_with fail
  refine wp_loop_rounds 1 ?_
  rw [rounds_succ]
  go_wp2_with fail
  refine (room_any lb dv vs ref _ base (hE.out.2.1.kp ((Kp.refl (fun _ => False) w).alloc _) (fun _ _ h => h) (fun _ _ _ _ h => h)) (by omega) (c2' _)).mono ?_
  rw [unhide hr']
  rintro e w' ⟨rfl, rfl⟩
  have hS := hide (show M.st ref 1 = (step ref (rec1 M.ep M.sq (hs1 M.ty M.ln M.ms 0 [])), 0) by
    have h := st_next M ref (k := 0) (n := 0) rfl rfl rfl rfl (by rw [hE.out.1]; simp)
    rw [h]
    simp [Msg.part, hE.out.1]
    exact ⟨rfl, rfl⟩)
  cases fso
  · go_wp2_with fail
    go_region
    go_wp2_with fail
    have K0 : Kp (fun k => Value.ownBlock (.slice none 0 0) = some k) w (((w.alloc (.cells #[.int .u8 ty, .int .u32 ln, .int .u16 ms, .int .u32 of, .slice none 0 0] 55)).alloc (.cells #[.int .u8 ty, .int .u32 ln, .int .u16 ms, .int .u32 0, .slice none 0 0] 55)).drew) := (((Kp.refl _ w).alloc _).alloc _).drew
    refine (happ_any (.slice none 0 0) ty ln ms 0 none 0 0 [] [] _ base (nil_ow _ _) (by simp; omega) (by simp) t0 t1 l0 l1 m0 m1 (by omega) (by omega) ⟨rfl, (fun _ => ⟨rfl, rfl⟩), (fun a _ j z hz => by simp at hz)⟩ (nil_off _) (by omega)).mono ?_
    rintro e w1 ⟨v1, rfl, A1⟩
    rw [List.nil_append] at A1
    replace A1 := App.pre K0 A1
    clear K0
    obtain ⟨so, m, c, rfl⟩ := A1.own.form3
    have hm : m = 12 := by rw [← A1.own.src.len, length_hs1]; rfl
    have hS1 := A1.own.src
    have hD1 : Dgv w1 base dv vs ref := hE.out.2.1.kp A1.kp (fun _ _ h => by simp [Value.ownBlock] at h) (fun _ _ _ _ h => by simp [Value.ownBlock] at h)
    have hL1 : LS w1 lb ep sq := hE.out.2.2.2.1.kp A1.kp (fun h => by simp [Value.ownBlock] at h)
    have hz1 : w.heap.size ≤ w1.heap.size := A1.kp.size
    have hev1 : w1.cell? ⟨1, 0, none⟩ = some (.iface eT (.pointer (some ea))) := by rw [A1.kp.cell (p := ⟨1, 0, none⟩) (by show 1 < w.heap.size; omega) (fun h => by simp [Value.ownBlock] at h)]; exact hE.out.2.2.2.2
    have hoff : ∀ u ∈ vs, ∀ a, so = some a → ¬ u.ownBlock = some a.block := fun u hu a ha hb => by
      subst ha
      obtain ⟨l, hl⟩ := hE.out.2.1.olds u hu
      have h1 := (hl.lt _ hb).2
      rcases A1.near a.block rfl with h2 | h2
      · simp [Value.ownBlock] at h2
      · omega
    have K1 : Kpo base w w1 := kpo_quiet A1.kp
    have G := hide (And.intro hS1 (And.intro hD1 (And.intro hL1 (And.intro hev1 (And.intro hoff K1)))))
    clear A1 hS1 hD1 hL1 hev1 hoff K1
    have hm2 : m ≤ 65535 := by omega
    clear hm
    go_wp2_with fail
    by_cases hmax : sq ≤ 281474976710655
    · refine (send_any lb dv vs ref ep sq so m c _ w1 base G.out.2.1 (by omega) (by omega) he0 he1 (by omega) hmax hE.out.2.2.1 G.out.1 G.out.2.2.2.2.1 hm2 G.out.2.2.1 hlb).mono ?_
      rintro e w2 ⟨d2, us2, rfl, D2, K2, L2⟩
      have LL : LS w2 lb M.ep (M.sq + ((1 : Nat) : Int)) := by
        rw [E.out.1, E.out.2.2.2.2]
        exact L2
      have KK : Kpo base w w2 := G.out.2.2.2.2.2.trans K2
      have F := hide (show Sent M ref base lb eT ea w (.returned (.tuple #[d2, .nilIface])) w2 from
        ⟨d2, us2, 1, _, rfl, by rw [unhide hS, E.out.1, E.out.2.1, E.out.2.2.1, E.out.2.2.2.1, E.out.2.2.2.2]; exact D2, LL, KK, (fun j h1 h2 => by omega), .inl ⟨rfl, by omega, by rw [unhide hS, hE.out.1]; rfl, by rw [E.out.2.2.2.2]; omega⟩⟩)
      clear D2 K2 L2 LL KK
      go_wp2
      go_ret2
      exact F.out
    · refine (send_none lb dv vs ref ep sq so m c w1 base G.out.2.1 (by omega) (by omega) hE.out.2.2.1 eT ea G.out.2.2.2.1 (by omega) hm2 G.out.2.2.1 hlb).mono ?_
      rintro e w2 ⟨rfl, D2, K2, L2⟩
      have KK : Kpo base w w2 := G.out.2.2.2.2.2.trans K2
      have F := hide (show Sent M ref base lb eT ea w (.returned (.tuple #[dv, .iface eT (.pointer (some ea))])) w2 from
        ⟨dv, vs, 0, _, rfl, D2, by rw [E.out.1, E.out.2.2.2.2]; simpa using L2, KK, (fun j h1 h2 => by omega), .inr ⟨rfl, by rw [E.out.2.2.2.2]; omega, .inl rfl⟩⟩)
      clear D2 K2 L2 KK
      go_wp2
      go_ret2
      exact F.out
  · rename_i fa
    go_wp2_with fail
    go_region
    go_wp2_with fail
    have K0 : Kp (fun k => Value.ownBlock (.slice none 0 0) = some k) w (((w.alloc (.cells #[.int .u8 ty, .int .u32 ln, .int .u16 ms, .int .u32 of, .slice (some fa) 0 0] 55)).alloc (.cells #[.int .u8 ty, .int .u32 ln, .int .u16 ms, .int .u32 0, .slice (some fa) 0 0] 55)).drew) := (((Kp.refl _ w).alloc _).alloc _).drew
    refine (happ_any (.slice none 0 0) ty ln ms 0 (some fa) 0 0 [] [] _ base (nil_ow _ _) (by simp; omega) (by simp) t0 t1 l0 l1 m0 m1 (by omega) (by omega) ⟨rfl, (fun _ => ⟨rfl, rfl⟩), (fun a _ j z hz => by simp at hz)⟩ (nil_off _) (by omega)).mono ?_
    rintro e w1 ⟨v1, rfl, A1⟩
    rw [List.nil_append] at A1
    replace A1 := App.pre K0 A1
    clear K0
    obtain ⟨so, m, c, rfl⟩ := A1.own.form3
    have hm : m = 12 := by rw [← A1.own.src.len, length_hs1]; rfl
    have hS1 := A1.own.src
    have hD1 : Dgv w1 base dv vs ref := hE.out.2.1.kp A1.kp (fun _ _ h => by simp [Value.ownBlock] at h) (fun _ _ _ _ h => by simp [Value.ownBlock] at h)
    have hL1 : LS w1 lb ep sq := hE.out.2.2.2.1.kp A1.kp (fun h => by simp [Value.ownBlock] at h)
    have hz1 : w.heap.size ≤ w1.heap.size := A1.kp.size
    have hev1 : w1.cell? ⟨1, 0, none⟩ = some (.iface eT (.pointer (some ea))) := by rw [A1.kp.cell (p := ⟨1, 0, none⟩) (by show 1 < w.heap.size; omega) (fun h => by simp [Value.ownBlock] at h)]; exact hE.out.2.2.2.2
    have hoff : ∀ u ∈ vs, ∀ a, so = some a → ¬ u.ownBlock = some a.block := fun u hu a ha hb => by
      subst ha
      obtain ⟨l, hl⟩ := hE.out.2.1.olds u hu
      have h1 := (hl.lt _ hb).2
      rcases A1.near a.block rfl with h2 | h2
      · simp [Value.ownBlock] at h2
      · omega
    have K1 : Kpo base w w1 := kpo_quiet A1.kp
    have G := hide (And.intro hS1 (And.intro hD1 (And.intro hL1 (And.intro hev1 (And.intro hoff K1)))))
    clear A1 hS1 hD1 hL1 hev1 hoff K1
    have hm2 : m ≤ 65535 := by omega
    clear hm
    go_wp2_with fail
    by_cases hmax : sq ≤ 281474976710655
    · refine (send_any lb dv vs ref ep sq so m c _ w1 base G.out.2.1 (by omega) (by omega) he0 he1 (by omega) hmax hE.out.2.2.1 G.out.1 G.out.2.2.2.2.1 hm2 G.out.2.2.1 hlb).mono ?_
      rintro e w2 ⟨d2, us2, rfl, D2, K2, L2⟩
      have LL : LS w2 lb M.ep (M.sq + ((1 : Nat) : Int)) := by
        rw [E.out.1, E.out.2.2.2.2]
        exact L2
      have KK : Kpo base w w2 := G.out.2.2.2.2.2.trans K2
      have F := hide (show Sent M ref base lb eT ea w (.returned (.tuple #[d2, .nilIface])) w2 from
        ⟨d2, us2, 1, _, rfl, by rw [unhide hS, E.out.1, E.out.2.1, E.out.2.2.1, E.out.2.2.2.1, E.out.2.2.2.2]; exact D2, LL, KK, (fun j h1 h2 => by omega), .inl ⟨rfl, by omega, by rw [unhide hS, hE.out.1]; rfl, by rw [E.out.2.2.2.2]; omega⟩⟩)
      clear D2 K2 L2 LL KK
      go_wp2
      go_ret2
      exact F.out
    · refine (send_none lb dv vs ref ep sq so m c w1 base G.out.2.1 (by omega) (by omega) hE.out.2.2.1 eT ea G.out.2.2.2.1 (by omega) hm2 G.out.2.2.1 hlb).mono ?_
      rintro e w2 ⟨rfl, D2, K2, L2⟩
      have KK : Kpo base w w2 := G.out.2.2.2.2.2.trans K2
      have F := hide (show Sent M ref base lb eT ea w (.returned (.tuple #[dv, .iface eT (.pointer (some ea))])) w2 from
        ⟨dv, vs, 0, _, rfl, D2, by rw [E.out.1, E.out.2.2.2.2]; simpa using L2, KK, (fun j h1 h2 => by omega), .inr ⟨rfl, by rw [E.out.2.2.2.2]; omega, .inl rfl⟩⟩)
      clear D2 K2 L2 KK
      go_wp2
      go_ret2
      exact F.out
end Go.Proofs.Qxb6614518aDoor
