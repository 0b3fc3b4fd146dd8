/-
  OURS. FnRecordLayerSendHandshakeFragments (f3): the new datagrams, and the end.
-/
import Derived.Test.Qxb6614518aDoorSeg3B
namespace Go.Proofs.Qxb6614518aDoor
open Go Go.RowKit
set_option linter.unusedVariables false

/-- .. at a datagram that holds one record alone. -/
theorem chk_row0 {w : World} {g n dc k o L : Nat} {fso : Option Addr} (M : Msg) (hok : M.ok) (hL : M.body.length = L) (h : o + n ≤ L) (hb : L ≤ 1048576) (hn0 : n = 0 → L = 0)
    (hlen : 13 + (12 + n) ≤ 1500) (hdc : 13 + (12 + n) ≤ dc) (hs : M.sq + k ≤ 281474976710655)
    (hsrc : Src w (some ⟨g, 0, none⟩) (13 + (12 + n)) dc (M.rc k o n)) (hf : Src w fso L L M.body) (hfs : 0 < L → ∃ fb, fso = some ⟨fb, 0, none⟩) :
    Calls Tryd.prog 12 #[.slice (some ⟨g, 0, none⟩) (13 + (12 + n)) dc, .int .i64 0, .int .u64 M.ep, .int .u64 M.sq, .int .i64 (k : Nat), .int .u8 M.ty, .int .u32 M.ln, .int .u16 M.ms, .slice fso L L, .int .i64 (o : Nat)] w
      fun e w' => e = .returned (.tuple #[.int .i64 (n : Nat), .bool true]) ∧ ∃ q, w' = w.drewN q := by
  have := chk_row (w := w) (g := g) (p := 0) (n := n) (dc := dc) (k := k) (o := o) (L := L) (fso := fso) (pre := []) M hok rfl hL h hb hn0 (by omega) (by omega) hs (by rw [Nat.zero_add]; exact hsrc) hf hfs
  rw [Nat.zero_add] at this
  exact this

set_option maxRecDepth 100000 in
set_option maxHeartbeats 4000000 in
theorem z20 {M : Msg} {ls out : List (List Int)} {w W : World} {eT : Nat} {ea : Addr} {rso : Option Addr} {n rc : Nat} {o1 : Option Addr} {c1 k : Nat} {er : Value} {fso : Option Addr} {fl r0 c0 m : Nat} {inl : Bool} (h : Mid3 M ls out w W eT ea rso n rc o1 c1 k er fso fl r0 c0 m inl) {S : Nat} {dn : Bool} (hS : S = min fl c0) (hd : dn = (decide (r0 ≠ 0) && decide (fl ≤ c0))) {S2 : Nat} {dn2 : Bool} (hS2 : S2 = min fl (c0 + 1475 * m)) (hd2 : dn2 = (decide (k ≠ 0) && decide (fl ≤ c0 + 1475 * m)))
    (u2 u6 u8 u9 u10 u11 u12 u13 u14 u15 u16 u17 u19 u20 u26 u28 u32 u33 u34 u35 u36 u37 u38 u39 u40 u41 u42 u43 u44 u45 u46 u47 u48 u49 u50 u51 u52 u53 u54 u55 u56 u57 u58 u59 u60 u61 u62 u63 u64 u65 u66 u67 u68 u69 u70 u71 u72 u73 u74 u75 u76 u77 u78 u79 u80 u81 u82 u83 u84 u85 u86 u87 u88 u89 u90 u91 u92 u93 u94 u95 u96 u97 u98 u99 u100 u101 u102 u103 u104 u105 u106 u107 u108 u109 u110 u111 u112 u113 u114 u115 u116 u117 u118 u119 u120 u121 u122 u123 u124 u125 u126 u127 u128 u129 u130 u131 u132 u133 u134 u135 u136 u137 u138 u139 u140 u141 u142 u143 u144 u145 u146 u147 u148 u149 u150 u151 u152 u153 u154 u155 u156 u157 u158 u159 u160 u161 u162 u163 u164 u165 u166 u167 u168 u169 u170 u171 u172 u173 u174 u175 u176 u177 u178 u179 u180 u181 u182 u183 u184 u185 u186 u187 u188 u189 u190 u191 u192 u193 u194 u195 u196 u197 u198 u199 u200 u201 u202 u203 u204 u205 u206 u207 u208 u209 u210 u211 u212 u213 u214 u215 u216 u217 u218 u219 u220 u221 u222 u223 u224 u225 u226 u227 u228 u229 u230 u231 u232 u233 u234 u235 u236 u237 u238 u239 u240 u241 u242 u243 u244 u245 u246 u247 u248 u249 u250 u251 u252 u253 u254 u255 u256 u257 u258 u259 u260 : Value) (K : Act → World → Prop) (Q : Exit → Act → World → Prop)
    (hK : ∀ (qq : Nat) (v16 v36 v37 v38 v192 v193 v194 v195 v196 v197 v198 v199 v200 v201 v202 v203 v204 v205 v206 v207 v208 v209 v210 v211 v212 v213 v214 v215 v216 v217 v218 v219 v220 v221 v222 v223 v224 v225 v226 v227 v228 v229 v230 v231 v232 v233 v234 v235 v236 v237 v238 v239 v240 : Value), K ⟨#[.int .u64 M.ep, .int .u64 M.sq, u2, .int .u8 M.ty, .int .u32 M.ln, .int .u16 M.ms, u6, .slice fso fl fl, u8, u9, u10, u11, u12, u13, u14, u15, v16, u17, .slice rso n rc, u19, u20, .slice o1 (n + m) c1, er, .int .u64 (M.sq + (k : Nat)), .int .i64 (n : Nat), .int .i64 (fl : Nat), u26, .bool inl, u28, .int .i64 (k : Nat), .int .i64 (S2 : Nat), .bool dn2, u32, u33, u34, u35, v36, v37, v38, u39, u40, u41, u42, u43, u44, u45, u46, u47, u48, u49, u50, u51, u52, u53, u54, u55, u56, u57, u58, u59, u60, u61, u62, u63, u64, u65, u66, u67, u68, u69, u70, u71, u72, u73, u74, u75, u76, u77, u78, u79, u80, u81, u82, u83, u84, u85, u86, u87, u88, u89, u90, u91, u92, u93, u94, u95, u96, u97, u98, u99, u100, u101, u102, u103, u104, u105, u106, u107, u108, u109, u110, u111, u112, u113, u114, u115, u116, u117, u118, u119, u120, u121, u122, u123, u124, u125, u126, u127, u128, u129, u130, u131, u132, u133, u134, u135, u136, u137, u138, u139, u140, u141, u142, u143, u144, u145, u146, u147, u148, u149, u150, u151, u152, u153, u154, u155, u156, u157, u158, u159, u160, u161, u162, u163, u164, u165, u166, u167, u168, u169, u170, u171, u172, u173, u174, u175, u176, u177, u178, u179, u180, u181, u182, u183, u184, u185, u186, u187, u188, u189, u190, u191, v192, v193, v194, v195, v196, v197, v198, v199, v200, v201, v202, v203, v204, v205, v206, v207, v208, v209, v210, v211, v212, v213, v214, v215, v216, v217, v218, v219, v220, v221, v222, v223, v224, v225, v226, v227, v228, v229, v230, v231, v232, v233, v234, v235, v236, v237, v238, v239, v240, u241, u242, u243, u244, u245, u246, u247, u248, u249, u250, u251, u252, u253, u254, u255, u256, u257, u258, u259, u260], []⟩ (W.drewN qq)) :
    Code.wp Tryd.prog (nthS 20 (Tryd.f3.body.getD .skip)) (Exit.then K Q) ⟨#[.int .u64 M.ep, .int .u64 M.sq, u2, .int .u8 M.ty, .int .u32 M.ln, .int .u16 M.ms, u6, .slice fso fl fl, u8, u9, u10, u11, u12, u13, u14, u15, u16, u17, .slice rso n rc, u19, u20, .slice o1 (n + m) c1, er, .int .u64 (M.sq + (k : Nat)), .int .i64 (n : Nat), .int .i64 (fl : Nat), u26, .bool inl, u28, .int .i64 (r0 : Nat), .int .i64 (S : Nat), .bool dn, u32, u33, u34, u35, u36, u37, u38, u39, u40, u41, u42, u43, u44, u45, u46, u47, u48, u49, u50, u51, u52, u53, u54, u55, u56, u57, u58, u59, u60, u61, u62, u63, u64, u65, u66, u67, u68, u69, u70, u71, u72, u73, u74, u75, u76, u77, u78, u79, u80, u81, u82, u83, u84, u85, u86, u87, u88, u89, u90, u91, u92, u93, u94, u95, u96, u97, u98, u99, u100, u101, u102, u103, u104, u105, u106, u107, u108, u109, u110, u111, u112, u113, u114, u115, u116, u117, u118, u119, u120, u121, u122, u123, u124, u125, u126, u127, u128, u129, u130, u131, u132, u133, u134, u135, u136, u137, u138, u139, u140, u141, u142, u143, u144, u145, u146, u147, u148, u149, u150, u151, u152, u153, u154, u155, u156, u157, u158, u159, u160, u161, u162, u163, u164, u165, u166, u167, u168, u169, u170, u171, u172, u173, u174, u175, u176, u177, u178, u179, u180, u181, u182, u183, u184, u185, u186, u187, u188, u189, u190, u191, u192, u193, u194, u195, u196, u197, u198, u199, u200, u201, u202, u203, u204, u205, u206, u207, u208, u209, u210, u211, u212, u213, u214, u215, u216, u217, u218, u219, u220, u221, u222, u223, u224, u225, u226, u227, u228, u229, u230, u231, u232, u233, u234, u235, u236, u237, u238, u239, u240, u241, u242, u243, u244, u245, u246, u247, u248, u249, u250, u251, u252, u253, u254, u255, u256, u257, u258, u259, u260], []⟩ W := by
  have H := hide h
  have hok := h.ok
  have hsq0 := hok.hs0
  have hsq1 := h.sq1
  have hsqk := h.sqk
  have hflb := h.flb
  have hkb := h.kb
  have hmk := h.sh.hk
  have hn := h.nb
  have hlen := h.rr.len
  have hmb : m ≤ 1048578 := by omega
  clear h
  have HK := hide hK
  clear hK
  conv => arg 2; whnf
  have hbl := H.out.hfl
  have HS := hide hS
  have HD := hide hd
  have HS2 := hide hS2
  have HD2 := hide hd2
  clear hS hd hS2 hd2
  subst hmk
  have hr0 : r0 ≤ 1048578 := by omega
  have HZ := hide (show r0 = 0 → c0 = 0 from fun h => (H.out.sh.z h).1)
  have ROW := hide (show ∀ i, i < m → ∃ b o g d nn, o1 = some ⟨b, o, none⟩ ∧ W.cell? ⟨b, o + (n + i), none⟩ = some (.slice (some ⟨g, 0, none⟩) (13 + (12 + nn)) d) ∧ nn = min (fl - (c0 + 1475 * i)) 1475 ∧ (r0 + i = 0 ∨ c0 + 1475 * i < fl) ∧
      Hid (∀ q, Calls Tryd.prog 12 #[.slice (some ⟨g, 0, none⟩) (13 + (12 + nn)) d, .int .i64 0, .int .u64 M.ep, .int .u64 M.sq, .int .i64 ((r0 + i : Nat) : Int), .int .u8 M.ty, .int .u32 M.ln, .int .u16 M.ms, .slice fso fl fl, .int .i64 ((c0 + 1475 * i : Nat) : Int)] (W.drewN q)
      fun e w' => e = .returned (.tuple #[.int .i64 (nn : Nat), .bool true]) ∧ ∃ q', w' = (W.drewN q).drewN q') from fun i hi => by
    have e := H.out.sh.fr i hi
    have hgo := H.out.sh.go i hi
    rw [hlen, hbl] at e
    rw [hbl] at hgo
    have hz : r0 = 0 → c0 = 0 := fun h => (H.out.sh.z h).1
    generalize hnn : min (fl - (c0 + 1475 * i)) 1475 = nn at e
    have hln : (M.rc (r0 + i) (c0 + 1475 * i) nn).length = 13 + (12 + nn) := by
      rw [M.length_rc _ _ _ (by omega)]
      omega
    obtain ⟨b, o, g, d, h1, h2, h3, h4⟩ := H.out.own _ _ e (fun h => by have := congrArg List.length h; rw [hln] at this; simp at this)
    rw [hln] at h2 h3 h4
    have hsq : M.sq + ((r0 + i : Nat) : Int) ≤ 281474976710655 := by
      have h1 := H.out.fin0
      unfold Fin3 at h1
      omega
    exact ⟨b, o, g, d, nn, h1, h2, rfl, hgo, fun q => chk_row0 M H.out.ok hbl (by omega) hflb (by omega) (by omega) h4 hsq (src_drewN h3 q) (src_drewN H.out.frag q) H.out.head⟩)
  have HI := hide (show inl = true → m = 0 ∨ r0 ≠ 0 from fun h => by
    by_cases h0 : r0 = 0
    · exact .inl ((H.out.sh.z h0).2 h)
    · exact .inr h0)
  clear H hlen hkb hsqk hsq1 hsq0 hok hbl
  go_wp2_with fail
  go_loopw [29, 30, 31, 36] (fun f29 f30 f31 f36 wr => ∃ i q s : Nat, ∃ dd : Bool, i ≤ m ∧ f29 = .int .i64 ((r0 + i : Nat) : Int) ∧ f30 = .int .i64 (s : Nat) ∧ f31 = .bool dd ∧ f36 = .int .i64 ((n + i : Nat) : Int) ∧ Hid (s = min fl (c0 + 1475 * i)) ∧ Hid (dd = (decide (r0 + i ≠ 0) && decide (fl ≤ c0 + 1475 * i))) ∧ Hid (wr = W.drewN q)) (fun _ _ _ f36 _ => n + m - (intOf f36).toNat)
  case atStart => exact ⟨0, 0, S, dn, Nat.zero_le _, rfl, rfl, rfl, rfl, HS, HD, rfl⟩
  case round =>
    obtain ⟨i, q, s, dd, hi, rfl, rfl, rfl, rfl, hs, hdd, hw⟩ := hrel
    by_cases hlt : i < m
    · obtain ⟨b, o, g, d, nn, rfl, e1, hnn, hgo, CH⟩ := ROW.out i hlt
      have hdf : dd = false := by
        rw [hdd.out]
        rcases hgo with h | h
        · simp [h]
        · have : ¬ fl ≤ c0 + 1475 * i := by omega
          simp [this]
      subst hdf
      have hso : Hid (s = c0 + 1475 * i) := by have := hs.out; have := HZ.out; show s = c0 + 1475 * i; omega
      replace e1 : wr.cell? ⟨b, o + (n + i), none⟩ = some (.slice (some ⟨g, 0, none⟩) (13 + (12 + nn)) d) := by rw [hw.out]; exact e1
      have CH1 := hide (CH.out q)
      rw [← hso.out, ← hw.out] at CH1
      have g1 : (n : Int) + i < (n : Int) + m := by omega
      have g2 : (n : Int) + i ≤ 4000000 := by omega
      have hs2 : s + nn ≤ fl := by have := hso.out; have := HZ.out; omega
      have IN : inl = false ∨ (((r0 : Int) + i == 0) = false ∧ inl = true) := by
        cases hin : inl with
        | false => exact .inl rfl
        | true =>
          refine .inr ⟨?_, rfl⟩
          rw [beq_eq_false_iff_ne]
          have := HI.out hin
          omega
      have NX := hide (show s + nn = min fl (c0 + 1475 * (i + 1)) by have := hso.out; have := HZ.out; omega)
      have FU := hide (show ¬ s + nn = fl → nn = 1475 by have := hso.out; have := HZ.out; omega)
      have hnb : nn ≤ 1475 := by omega
      have hnn' := hide hnn
      have hgo' := hide hgo
      clear hnn hgo CH
      rcases IN with rfl | ⟨g3, rfl⟩
      · go_wp2_with fail
        refine (unhide CH1).mono ?_
        rintro e w1 ⟨rfl, q1, hq1⟩
        replace e1 : w1.cell? ⟨b, o + (n + i), none⟩ = some (.slice (some ⟨g, 0, none⟩) (13 + (12 + nn)) d) := by rw [hq1]; exact e1
        have hw1 : Hid (w1 = W.drewN (q + q1)) := by show w1 = _; rw [hq1, hw.out, World.drewN_drewN]
        clear hq1 hw
        by_cases hdn : s + nn = fl
        · have k3 : ((s : Int) + nn == fl) = true := by rw [beq_iff_eq]; omega
          have k4 : Hid (true = (decide (r0 + (i + 1) ≠ 0) && decide (fl ≤ c0 + 1475 * (i + 1)))) := by
            have h1 := NX.out
            have h2 : fl ≤ c0 + 1475 * (i + 1) := by omega
            have h3 : r0 + (i + 1) ≠ 0 := by omega
            show true = _
            rw [decide_eq_true h2, decide_eq_true h3]
            rfl
          clear hdn FU
          go_wp2
          go_roundw
          case rel => exact ⟨i + 1, _, s + nn, true, hlt, by go_num, by go_num, rfl, by go_num, NX, k4, hw1⟩
          case measure => simp [intOf]; omega
        · have k3 : ((s : Int) + nn == fl) = false := by rw [beq_eq_false_iff_ne]; omega
          have k4 : Hid (false = (decide (r0 + (i + 1) ≠ 0) && decide (fl ≤ c0 + 1475 * (i + 1)))) := by
            have h1 := NX.out
            have h2 : ¬ fl ≤ c0 + 1475 * (i + 1) := by omega
            show false = _
            rw [decide_eq_false h2, Bool.and_false]
          have k5 : ((13 : Int) + (12 + nn) != 1500) = false := by have := FU.out hdn; simp; omega
          clear hdn FU
          go_wp2
          go_roundw
          case rel => exact ⟨i + 1, _, s + nn, false, hlt, by go_num, by go_num, rfl, by go_num, NX, k4, hw1⟩
          case measure => simp [intOf]; omega
      · go_wp2_with fail
        refine (unhide CH1).mono ?_
        rintro e w1 ⟨rfl, q1, hq1⟩
        replace e1 : w1.cell? ⟨b, o + (n + i), none⟩ = some (.slice (some ⟨g, 0, none⟩) (13 + (12 + nn)) d) := by rw [hq1]; exact e1
        have hw1 : Hid (w1 = W.drewN (q + q1)) := by show w1 = _; rw [hq1, hw.out, World.drewN_drewN]
        clear hq1 hw
        by_cases hdn : s + nn = fl
        · have k3 : ((s : Int) + nn == fl) = true := by rw [beq_iff_eq]; omega
          have k4 : Hid (true = (decide (r0 + (i + 1) ≠ 0) && decide (fl ≤ c0 + 1475 * (i + 1)))) := by
            have h1 := NX.out
            have h2 : fl ≤ c0 + 1475 * (i + 1) := by omega
            have h3 : r0 + (i + 1) ≠ 0 := by omega
            show true = _
            rw [decide_eq_true h2, decide_eq_true h3]
            rfl
          clear hdn FU
          go_wp2
          go_roundw
          case rel => exact ⟨i + 1, _, s + nn, true, hlt, by go_num, by go_num, rfl, by go_num, NX, k4, hw1⟩
          case measure => simp [intOf]; omega
        · have k3 : ((s : Int) + nn == fl) = false := by rw [beq_eq_false_iff_ne]; omega
          have k4 : Hid (false = (decide (r0 + (i + 1) ≠ 0) && decide (fl ≤ c0 + 1475 * (i + 1)))) := by
            have h1 := NX.out
            have h2 : ¬ fl ≤ c0 + 1475 * (i + 1) := by omega
            show false = _
            rw [decide_eq_false h2, Bool.and_false]
          have k5 : ((13 : Int) + (12 + nn) != 1500) = false := by have := FU.out hdn; simp; omega
          clear hdn FU
          go_wp2
          go_roundw
          case rel => exact ⟨i + 1, _, s + nn, false, hlt, by go_num, by go_num, rfl, by go_num, NX, k4, hw1⟩
          case measure => simp [intOf]; omega
    · obtain rfl : i = m := by omega
      have g1 : (n : Int) + i ≤ (n : Int) + i := Int.le_refl _
      have h1 : s = S2 := by rw [hs.out, HS2.out]
      have h2 : dd = dn2 := by rw [hdd.out, HD2.out]
      subst h1 h2
      have hw' := hw.out
      subst hw'
      go_wp2
      exact HK.out _ _ _ _ _ _ _ _ _ _ _ _ _ _ _ _ _ _ _ _ _ _ _ _ _ _ _ _ _ _ _ _ _ _ _ _ _ _ _ _ _ _ _ _ _ _ _ _ _ _ _ _ _ _

end Go.Proofs.Qxb6614518aDoor
