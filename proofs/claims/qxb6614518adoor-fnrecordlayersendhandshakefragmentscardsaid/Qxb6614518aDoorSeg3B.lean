/-
  OURS. FnRecordLayerSendHandshakeFragments (f3): the last datagram.
-/
import Derived.Test.Qxb6614518aDoorSeg3A
namespace Go.Proofs.Qxb6614518aDoor
open Go Go.RowKit
set_option linter.unusedVariables false

set_option maxRecDepth 100000 in
set_option maxHeartbeats 4000000 in
theorem z19 {M : Msg} {ls out : List (List Int)} {w W : World} {eT : Nat} {ea : Addr} {rso : Option Addr} {n rc : Nat} {o1 : Option Addr} {c1 k : Nat} {er : Value} {fso : Option Addr} {fl r0 c0 m : Nat} {inl : Bool} (h : Mid3 M ls out w W eT ea rso n rc o1 c1 k er fso fl r0 c0 m inl) {R S : Nat} {dn : Bool} (hR : R = r0) (hS : S = min fl c0) (hd : dn = (decide (r0 ≠ 0) && decide (fl ≤ c0)))
    (u2 u6 u8 u9 u10 u11 u12 u13 u14 u15 u16 u17 u19 u20 u26 u28 u32 u33 u34 u35 u36 u37 u38 u39 u40 u41 u42 u43 u44 u45 u46 u47 u48 u49 u50 u51 u52 u53 u54 u55 u56 u57 u58 u59 u60 u61 u62 u63 u64 u65 u66 u67 u68 u69 u70 u71 u72 u73 u74 u75 u76 u77 u78 u79 u80 u81 u82 u83 u84 u85 u86 u87 u88 u89 u90 u91 u92 u93 u94 u95 u96 u97 u98 u99 u100 u101 u102 u103 u104 u105 u106 u107 u108 u109 u110 u111 u112 u113 u114 u115 u116 u117 u118 u119 u120 u121 u122 u123 u124 u125 u126 u127 u128 u129 u130 u131 u132 u133 u134 u135 u136 u137 u138 u139 u140 u141 u142 u143 u144 u145 u146 u147 u148 u149 u150 u151 u152 u153 u154 u155 u156 u157 u158 u159 u160 u161 u162 u163 u164 u165 u166 u167 u168 u169 u170 u171 u172 u173 u174 u175 u176 u177 u178 u179 u180 u181 u182 u183 u184 u185 u186 u187 u188 u189 u190 u191 u192 u193 u194 u195 u196 u197 u198 u199 u200 u201 u202 u203 u204 u205 u206 u207 u208 u209 u210 u211 u212 u213 u214 u215 u216 u217 u218 u219 u220 u221 u222 u223 u224 u225 u226 u227 u228 u229 u230 u231 u232 u233 u234 u235 u236 u237 u238 u239 u240 u241 u242 u243 u244 u245 u246 u247 u248 u249 u250 u251 u252 u253 u254 u255 u256 u257 u258 u259 u260 : Value) (K : Act → World → Prop) (Q : Exit → Act → World → Prop)
    (hK : ∀ (qq : Nat) (v32 v33 v34 v35 v127 v128 v129 v130 v131 v132 v133 v134 v135 v136 v137 v138 v139 v140 v141 v142 v143 v144 v145 v146 v147 v148 v149 v150 v151 v152 v153 v154 v155 v156 v157 v158 v159 v160 v161 v162 v163 v164 v165 v166 v167 v168 v169 v170 v171 v172 v173 v174 v175 v176 v177 v178 v179 v180 v181 v182 v183 v184 v185 v186 v187 v188 v189 v190 v191 : Value), K ⟨#[.int .u64 M.ep, .int .u64 M.sq, u2, .int .u8 M.ty, .int .u32 M.ln, .int .u16 M.ms, u6, .slice fso fl fl, u8, u9, u10, u11, u12, u13, u14, u15, u16, u17, .slice rso n rc, u19, u20, .slice o1 (n + m) c1, er, .int .u64 (M.sq + (k : Nat)), .int .i64 (n : Nat), .int .i64 (fl : Nat), u26, .bool inl, u28, .int .i64 (R : Nat), .int .i64 (S : Nat), .bool dn, v32, v33, v34, v35, u36, u37, u38, u39, u40, u41, u42, u43, u44, u45, u46, u47, u48, u49, u50, u51, u52, u53, u54, u55, u56, u57, u58, u59, u60, u61, u62, u63, u64, u65, u66, u67, u68, u69, u70, u71, u72, u73, u74, u75, u76, u77, u78, u79, u80, u81, u82, u83, u84, u85, u86, u87, u88, u89, u90, u91, u92, u93, u94, u95, u96, u97, u98, u99, u100, u101, u102, u103, u104, u105, u106, u107, u108, u109, u110, u111, u112, u113, u114, u115, u116, u117, u118, u119, u120, u121, u122, u123, u124, u125, u126, v127, v128, v129, v130, v131, v132, v133, v134, v135, v136, v137, v138, v139, v140, v141, v142, v143, v144, v145, v146, v147, v148, v149, v150, v151, v152, v153, v154, v155, v156, v157, v158, v159, v160, v161, v162, v163, v164, v165, v166, v167, v168, v169, v170, v171, v172, v173, v174, v175, v176, v177, v178, v179, v180, v181, v182, v183, v184, v185, v186, v187, v188, v189, v190, v191, u192, u193, u194, u195, u196, u197, u198, u199, u200, u201, u202, u203, u204, u205, u206, u207, u208, u209, u210, u211, u212, u213, u214, u215, u216, u217, u218, u219, u220, u221, u222, u223, u224, u225, u226, u227, u228, u229, u230, u231, u232, u233, u234, u235, u236, u237, u238, u239, u240, u241, u242, u243, u244, u245, u246, u247, u248, u249, u250, u251, u252, u253, u254, u255, u256, u257, u258, u259, u260], []⟩ (W.drewN qq)) :
    Code.wp Tryd.prog (nthS 19 (Tryd.f3.body.getD .skip)) (Exit.then K Q) ⟨#[.int .u64 M.ep, .int .u64 M.sq, u2, .int .u8 M.ty, .int .u32 M.ln, .int .u16 M.ms, u6, .slice fso fl fl, u8, u9, u10, u11, u12, u13, u14, u15, u16, u17, .slice rso n rc, u19, u20, .slice o1 (n + m) c1, er, .int .u64 (M.sq + (k : Nat)), .int .i64 (n : Nat), .int .i64 (fl : Nat), u26, .bool inl, u28, .int .i64 0, .int .i64 0, .bool false, u32, u33, u34, u35, u36, u37, u38, u39, u40, u41, u42, u43, u44, u45, u46, u47, u48, u49, u50, u51, u52, u53, u54, u55, u56, u57, u58, u59, u60, u61, u62, u63, u64, u65, u66, u67, u68, u69, u70, u71, u72, u73, u74, u75, u76, u77, u78, u79, u80, u81, u82, u83, u84, u85, u86, u87, u88, u89, u90, u91, u92, u93, u94, u95, u96, u97, u98, u99, u100, u101, u102, u103, u104, u105, u106, u107, u108, u109, u110, u111, u112, u113, u114, u115, u116, u117, u118, u119, u120, u121, u122, u123, u124, u125, u126, u127, u128, u129, u130, u131, u132, u133, u134, u135, u136, u137, u138, u139, u140, u141, u142, u143, u144, u145, u146, u147, u148, u149, u150, u151, u152, u153, u154, u155, u156, u157, u158, u159, u160, u161, u162, u163, u164, u165, u166, u167, u168, u169, u170, u171, u172, u173, u174, u175, u176, u177, u178, u179, u180, u181, u182, u183, u184, u185, u186, u187, u188, u189, u190, u191, u192, u193, u194, u195, u196, u197, u198, u199, u200, u201, u202, u203, u204, u205, u206, u207, u208, u209, u210, u211, u212, u213, u214, u215, u216, u217, u218, u219, u220, u221, u222, u223, u224, u225, u226, u227, u228, u229, u230, u231, u232, u233, u234, u235, u236, u237, u238, u239, u240, u241, u242, u243, u244, u245, u246, u247, u248, u249, u250, u251, u252, u253, u254, u255, u256, u257, u258, u259, u260], []⟩ W := by
  have H := hide h
  have hok := h.ok
  have hsq0 := hok.hs0
  have hsq1 := h.sq1
  have hsqk := h.sqk
  have hflb := h.flb
  have hkb := h.kb
  have hmk := h.sh.hk
  have hn := h.nb
  have hlen := h.rr.len
  have hmb : m ≤ 1048578 := by omega
  clear h
  have HK := hide hK
  clear hK
  conv => arg 2; whnf
  by_cases h0 : n = 0
  · obtain ⟨hr, -⟩ := H.out.sh.nol (by omega)
    obtain ⟨hc, -⟩ := H.out.sh.z hr
    rw [hr] at hR
    rw [hc, Nat.min_zero] at hS
    rw [hr] at hd
    have hd2 : dn = false := by rw [hd]; rfl
    subst hR hS hd2
    have g : (n : Int) ≤ 0 := by omega
    clear h0 hlen hmk hd hr hc
    go_wp2
    exact HK.out 0 _ _ _ _ _ _ _ _ _ _ _ _ _ _ _ _ _ _ _ _ _ _ _ _ _ _ _ _ _ _ _ _ _ _ _ _ _ _ _ _ _ _ _ _ _ _ _ _ _ _ _ _ _ _ _ _ _ _ _ _ _ _ _ _ _ _ _ _ _
  · obtain ⟨j, rfl⟩ : ∃ j, n = j + 1 := ⟨n - 1, by omega⟩
    have g : (0 : Int) < (j : Int) + 1 := by omega
    have gj : (j : Int) < (j : Int) + 1 + m := by omega
    obtain ⟨l, el, hi, ⟨hr, eo⟩ | ⟨hr, hc, hroom, eo⟩⟩ := H.out.sh.lst j (by omega)
    · obtain ⟨hc, -⟩ := H.out.sh.z hr
      rw [hr] at hR
      rw [hc, Nat.min_zero] at hS
      rw [hr] at hd
      have hd2 : dn = false := by rw [hd]; rfl
      subst hR hS hd2
      obtain ⟨b, o, b', o', a1, d1, a2, d2, x, rfl, rfl, e1, e2, hm, HS⟩ := pair_rows H.out.r1 H.out.rr eo el
      obtain ⟨b3, o3, a3, d3, q3, e3, _, _, hd3⟩ := H.out.r1.one eo
      cases q3
      rw [e1] at e3
      cases e3
      have FF := hide (show Calls Tryd.prog 11 #[.slice a1 l.length d1, .slice a2 l.length d2] W fun e w' => e = .returned (.bool true) ∧ ∃ q', w' = W.drewN q' from eq_pair (q := 0) rfl HS hm 0)
      clear h0 hlen hmk hd hr hc HS hi el eo H
      generalize l.length = x at *
      cases a1 with
      | none =>
        go_wp2_with fail
        refine (unhide FF).mono ?_
        rintro e w1 ⟨rfl, q1, rfl⟩
        go_wp2
        exact HK.out _ _ _ _ _ _ _ _ _ _ _ _ _ _ _ _ _ _ _ _ _ _ _ _ _ _ _ _ _ _ _ _ _ _ _ _ _ _ _ _ _ _ _ _ _ _ _ _ _ _ _ _ _ _ _ _ _ _ _ _ _ _ _ _ _ _ _ _ _ _
      | some ad =>
        go_wp2_with fail
        refine (unhide FF).mono ?_
        rintro e w1 ⟨rfl, q1, rfl⟩
        go_wp2
        exact HK.out _ _ _ _ _ _ _ _ _ _ _ _ _ _ _ _ _ _ _ _ _ _ _ _ _ _ _ _ _ _ _ _ _ _ _ _ _ _ _ _ _ _ _ _ _ _ _ _ _ _ _ _ _ _ _ _ _ _ _ _ _ _ _ _ _ _ _ _ _ _
    · have hbl := H.out.hfl
      rw [hr] at hR hd
      rw [hbl, ← hS] at eo
      have hle : S ≤ fl := by omega
      have hml : 25 ≤ M.least ∧ (fl ≠ 0 → M.least = 26) := by
        unfold Msg.least
        rw [hbl]
        split <;> omega
      have hS0 : S = 0 → fl = 0 := by omega
      have hi2 : inl = true := by rw [hi, decide_eq_true_iff]; exact hroom
      subst hi2
      subst hR
      have hlr : (l ++ M.rc 0 0 S).length = l.length + (13 + (12 + S)) := by rw [List.length_append, M.length_rc _ _ _ (by omega)]; omega
      obtain ⟨b, o, g1, d1, rfl, e1, s1, m1⟩ := H.out.own j _ eo (fun h => by have := congrArg List.length h; rw [hlr] at this; simp at this)
      obtain ⟨b2, o2, a2, d2, rfl, e2, s2, m2, m3⟩ := H.out.rr.one el
      rw [hlr] at e1 s1 m1
      have hsq : M.sq + ((0 : Nat) : Int) ≤ 281474976710655 := by
        have h1 := H.out.fin0
        unfold Fin3 at h1
        rw [← hmk, hr] at h1
        show M.sq + 0 ≤ 281474976710655
        omega
      have FF := hide (show Calls Tryd.prog 11 #[.slice (some ⟨g1, 0, none⟩) l.length d1, .slice a2 l.length d2] W fun e w' => e = .returned (.bool true) ∧ ∃ q', w' = W.drewN q' from eq_any (src_take s1) s2 m2)
      have CH := hide (fun (q : Nat) => chk_row (w := W.drewN q) (g := g1) (p := l.length) (n := S) (dc := d1) (k := 0) (o := 0) (L := fl) (fso := fso) (pre := l) M H.out.ok rfl hbl (by omega) hflb hS0 (by omega) m1 hsq (src_drewN s1 q) (src_drewN H.out.frag q) H.out.head)
      have hx : l.length ≤ 1475 := by omega
      have hfu : Hid (¬ fl ≤ c0 → l.length + (13 + (12 + S)) = 1500) := fun h => by omega
      have hSd : Hid (S = min fl c0) := hS
      have hd' : Hid (dn = decide (fl ≤ c0)) := by
        show dn = decide (fl ≤ c0)
        rw [hd]
        simp
      clear h0 hlen hmk hd hr hc hi el eo H s1 s2 hlr hml hroom hS m2 m3 hsq
      generalize l.length = x at *
      have g2 : x < x + (13 + (12 + S)) := by omega
      have g3 : (x : Int) < x + (13 + (12 + S)) := by omega
      go_wp2_with fail
      refine (unhide FF).mono ?_
      rintro e w1 ⟨rfl, q1, rfl⟩
      have CH1 := hide (CH.out q1)
      clear CH FF
      go_wp2_with fail
      refine (unhide CH1).mono ?_
      rintro e w2 ⟨rfl, q2, hq2⟩
      rw [World.drewN_drewN] at hq2
      have hq2' := hide hq2
      clear hq2
      by_cases hdn : fl ≤ c0
      · have k1 : Hid (S = fl) := by have := hSd.out; show S = fl; omega
        have k2 : dn = true := by rw [hd'.out]; simp [hdn]
        subst k2
        have k3 : ((S : Int) == fl) = true := by rw [k1.out]; simp
        clear hdn hd' hfu hSd
        go_wp2
        rw [hq2'.out]
        exact HK.out _ _ _ _ _ _ _ _ _ _ _ _ _ _ _ _ _ _ _ _ _ _ _ _ _ _ _ _ _ _ _ _ _ _ _ _ _ _ _ _ _ _ _ _ _ _ _ _ _ _ _ _ _ _ _ _ _ _ _ _ _ _ _ _ _ _ _ _ _ _
      · have k1 : (S : Int) ≠ fl := by have := hSd.out; omega
        have k2 : dn = false := by rw [hd'.out]; simp [hdn]
        subst k2
        have k3 : ((S : Int) == fl) = false := by rw [beq_eq_false_iff_ne]; exact k1
        have k4 := hfu.out hdn
        have k5 : ((x : Int) + (13 + (12 + S)) != 1500) = false := by simp; omega
        clear hdn hd' hfu hSd k4 k1
        go_wp2
        rw [hq2'.out]
        exact HK.out _ _ _ _ _ _ _ _ _ _ _ _ _ _ _ _ _ _ _ _ _ _ _ _ _ _ _ _ _ _ _ _ _ _ _ _ _ _ _ _ _ _ _ _ _ _ _ _ _ _ _ _ _ _ _ _ _ _ _ _ _ _ _ _ _ _ _ _ _ _

end Go.Proofs.Qxb6614518aDoor
