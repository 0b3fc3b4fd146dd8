/-
  OURS. FnRecordLayerSendHandshakeFreshAndFull (f4): statements 24 to 28, where there is room in the last datagram.
-/
import Derived.Test.Qxb6614518aDoorSegB
namespace Go.Proofs.Qxb6614518aDoor
open Go Go.RowKit
set_option linter.unusedVariables false

/-- What a message behind the last datagram leaves. -/
theorem fits_shape {M : Msg} {ref ini : List (List Int)} {l : List Int} (hF : Fits M ref ini l) {k : Nat} {er nilv errv : Value} (h : Out M ref k er nilv errv) :
    ∃ x more, (M.st ref k).1 = ini ++ [l ++ x] ++ more ∧ (k = 0 → x = [] ∧ more = []) ∧ (1 ≤ k → 1 ≤ x.length ∧ l.length + x.length ≤ 1500) := by
  cases k with
  | zero => exact ⟨[], [], by simp [Msg.st, hF.eq], fun _ => ⟨rfl, rfl⟩, fun h => by omega⟩
  | succ k =>
    have hs := st_fits hF k h.1
    refine ⟨M.rc 0 0 (M.n0 l), M.fr 1 (1475 - l.length) k, by rw [hs], fun h => by omega, fun _ => ?_⟩
    have hr := hF.room
    have hle := hF.le
    rw [M.length_rc _ _ _ (by unfold Msg.n0; omega)]
    unfold Msg.n0
    split at hr <;> omega

theorem Mid.drewN {M : Msg} {ls : List (List Int)} {w W : World} {eT : Nat} {ea : Addr} {rso : Option Addr} {n rc : Nat} {o1 : Option Addr} {n1 c1 k1 : Nat} {er1 : Value} {o2 : Option Addr} {S c2 : Nat} {er2 : Value} {fl N : Nat} (h : Mid M ls w W eT ea rso n rc o1 n1 c1 k1 er1 o2 S c2 er2 fl N) (q : Nat) :
    Mid M ls w (W.drewN q) eT ea rso n rc o1 n1 c1 k1 er1 o2 S c2 er2 fl N :=
  ⟨h.hfl, h.flb, h.sq0, h.sq1, h.nb, h.rr.kp ((Kp.refl _ W).drewN q), h.r1.kp ((Kp.refl _ W).drewN q), h.n1b, h.out1, h.r2.kp ((Kp.refl _ W).drewN q), h.need, h.sent, h.her2, fun q' => by rw [World.drewN_drewN]; exact h.fin _⟩

/-- The two last datagrams. -/
structure Two (M : Msg) (ls ini : List (List Int)) (l x : List Int) (more : List (List Int)) (W : World) (j n1 k1 : Nat) : Prop where
  eq : ls = ini ++ [l]
  st : (M.st ls k1).1 = ini ++ [l ++ x] ++ more
  hj : ini.length = j
  hn1 : n1 = j + 1 + more.length
  zero : k1 = 0 → x = [] ∧ more = []
  pos : 1 ≤ k1 → 1 ≤ x.length ∧ l.length + x.length ≤ 1500

set_option maxRecDepth 100000 in
set_option maxHeartbeats 4000000 in
theorem s24 {M : Msg} {ls : List (List Int)} {w W : World} {eT : Nat} {ea : Addr} {rso : Option Addr} {j rc : Nat} {o1 : Option Addr} {n1 c1 k1 : Nat} {er1 : Value} {o2 : Option Addr} {S c2 : Nat} {er2 : Value} {fl N : Nat} (h : Mid M ls w W eT ea rso (j + 1) rc o1 n1 c1 k1 er1 o2 S c2 er2 fl N) {lst : Nat} (hlst : lst = if fl = 0 then 25 else 26) {ini more : List (List Int)} {l x : List Int} (ht : Two M ls ini l x more W j n1 k1) (hroom : l.length + lst ≤ 1500)
    (u2 u3 u4 u5 u6 u7 u8 u9 u10 u11 u12 u13 u14 u15 u16 u17 u19 u20 u24 u31 u32 u33 u36 u37 u38 u39 u40 u41 u42 u43 u44 u45 u46 u47 u48 u49 u50 u51 u52 u53 u54 u55 u56 u57 u58 u59 u60 u61 u62 u63 u64 u65 u66 u67 u68 u69 u70 u71 u72 u73 u74 u75 u76 u77 u78 u79 u80 u81 u82 u83 u84 u85 u86 u87 u88 u89 u90 u91 u92 u93 u94 u95 u96 u97 u98 u99 u100 u101 u102 u103 u104 u105 u106 u107 u108 u109 u110 u111 u112 u113 u114 u115 u116 u117 u118 u119 u120 u121 u122 u123 u124 u125 u126 u127 u128 u129 u130 u131 u132 u133 u134 u135 u136 u137 u138 u139 u140 u141 u142 u143 u144 u145 u146 u147 u148 u149 u150 u151 u152 u153 u154 u155 u156 u157 u158 u159 u160 u161 u162 u163 u164 u165 u166 u167 u168 u169 u170 u171 u172 u173 u174 u175 u176 u177 u178 u179 u180 u181 u182 u183 u184 u185 u186 u187 u188 u189 u190 u191 u192 u193 u194 u195 u196 u197 u198 u199 u200 u201 u202 u203 u204 u205 u206 u207 u208 u209 u210 u211 u212 u213 u214 u215 u216 u217 u218 u219 u220 u221 u222 u223 u224 u225 u226 u227 u228 u229 u230 u231 u232 u233 u234 u235 u236 u237 u238 u239 u240 u241 u242 u243 u244 u245 u246 u247 u248 u249 u250 u251 u252 u253 u254 u255 u256 u257 u258 u259 u260 u261 u262 u263 u264 u265 u266 u267 u268 u269 u270 u271 u272 u273 u274 u275 u276 u277 u278 u279 u280 u281 u282 u283 : Value) (K : Act → World → Prop) (Q : Exit → Act → World → Prop)
    (hK : ∀ (v16 v36 v37 v169 v170 v171 v172 v173 v174 v175 v176 v177 v178 v179 v180 v181 v182 v183 v184 v185 v186 v187 v188 v189 v190 v191 v192 v193 v194 v195 v196 v197 v198 v199 v200 v201 v202 v203 v204 v205 v206 v207 v208 v209 v210 v211 v212 v213 v214 v215 v216 v217 v218 v219 v220 v221 v222 v223 v224 v225 v226 v227 v228 v229 v230 v231 : Value), K ⟨#[.int .u64 M.ep, .int .u64 M.sq, u2, u3, u4, u5, u6, u7, u8, u9, u10, u11, u12, u13, u14, u15, v16, u17, .slice rso (j + 1) rc, u19, u20, .slice o1 n1 c1, er1, .int .u64 (M.sq + (k1 : Nat)), u24, .slice o2 S c2, er2, .int .u64 (M.sq + (S : Nat)), .int .i64 (fl : Nat), .int .i64 (N : Nat), .int .i64 (S : Nat), u31, u32, u33, .int .i64 ((j + 1 : Nat) : Int), .int .i64 (lst : Nat), v36, v37, u38, u39, u40, u41, u42, u43, u44, u45, u46, u47, u48, u49, u50, u51, u52, u53, u54, u55, u56, u57, u58, u59, u60, u61, u62, u63, u64, u65, u66, u67, u68, u69, u70, u71, u72, u73, u74, u75, u76, u77, u78, u79, u80, u81, u82, u83, u84, u85, u86, u87, u88, u89, u90, u91, u92, u93, u94, u95, u96, u97, u98, u99, u100, u101, u102, u103, u104, u105, u106, u107, u108, u109, u110, u111, u112, u113, u114, u115, u116, u117, u118, u119, u120, u121, u122, u123, u124, u125, u126, u127, u128, u129, u130, u131, u132, u133, u134, u135, u136, u137, u138, u139, u140, u141, u142, u143, u144, u145, u146, u147, u148, u149, u150, u151, u152, u153, u154, u155, u156, u157, u158, u159, u160, u161, u162, u163, u164, u165, u166, u167, u168, v169, v170, v171, v172, v173, v174, v175, v176, v177, v178, v179, v180, v181, v182, v183, v184, v185, v186, v187, v188, v189, v190, v191, v192, v193, v194, v195, v196, v197, v198, v199, v200, v201, v202, v203, v204, v205, v206, v207, v208, v209, v210, v211, v212, v213, v214, v215, v216, v217, v218, v219, v220, v221, v222, v223, v224, v225, v226, v227, v228, v229, v230, v231, u232, u233, u234, u235, u236, u237, u238, u239, u240, u241, u242, u243, u244, u245, u246, u247, u248, u249, u250, u251, u252, u253, u254, u255, u256, u257, u258, u259, u260, u261, u262, u263, u264, u265, u266, u267, u268, u269, u270, u271, u272, u273, u274, u275, u276, u277, u278, u279, u280, u281, u282, u283], []⟩ W) :
    Code.wp Tryd.prog (nthS 24 (Tryd.f4.body.getD .skip)) (Exit.then K Q) ⟨#[.int .u64 M.ep, .int .u64 M.sq, u2, u3, u4, u5, u6, u7, u8, u9, u10, u11, u12, u13, u14, u15, u16, u17, .slice rso (j + 1) rc, u19, u20, .slice o1 n1 c1, er1, .int .u64 (M.sq + (k1 : Nat)), u24, .slice o2 S c2, er2, .int .u64 (M.sq + (S : Nat)), .int .i64 (fl : Nat), .int .i64 (N : Nat), .int .i64 (S : Nat), u31, u32, u33, .int .i64 ((j + 1 : Nat) : Int), .int .i64 (lst : Nat), u36, u37, u38, u39, u40, u41, u42, u43, u44, u45, u46, u47, u48, u49, u50, u51, u52, u53, u54, u55, u56, u57, u58, u59, u60, u61, u62, u63, u64, u65, u66, u67, u68, u69, u70, u71, u72, u73, u74, u75, u76, u77, u78, u79, u80, u81, u82, u83, u84, u85, u86, u87, u88, u89, u90, u91, u92, u93, u94, u95, u96, u97, u98, u99, u100, u101, u102, u103, u104, u105, u106, u107, u108, u109, u110, u111, u112, u113, u114, u115, u116, u117, u118, u119, u120, u121, u122, u123, u124, u125, u126, u127, u128, u129, u130, u131, u132, u133, u134, u135, u136, u137, u138, u139, u140, u141, u142, u143, u144, u145, u146, u147, u148, u149, u150, u151, u152, u153, u154, u155, u156, u157, u158, u159, u160, u161, u162, u163, u164, u165, u166, u167, u168, u169, u170, u171, u172, u173, u174, u175, u176, u177, u178, u179, u180, u181, u182, u183, u184, u185, u186, u187, u188, u189, u190, u191, u192, u193, u194, u195, u196, u197, u198, u199, u200, u201, u202, u203, u204, u205, u206, u207, u208, u209, u210, u211, u212, u213, u214, u215, u216, u217, u218, u219, u220, u221, u222, u223, u224, u225, u226, u227, u228, u229, u230, u231, u232, u233, u234, u235, u236, u237, u238, u239, u240, u241, u242, u243, u244, u245, u246, u247, u248, u249, u250, u251, u252, u253, u254, u255, u256, u257, u258, u259, u260, u261, u262, u263, u264, u265, u266, u267, u268, u269, u270, u271, u272, u273, u274, u275, u276, u277, u278, u279, u280, u281, u282, u283], []⟩ W := by
  have H := hide h
  have hsq0 := h.sq0
  have hsq1 := h.sq1
  have hflb := h.flb
  have hNf := need_facts fl
  have hSf := sent_facts fl M.sq
  rw [h.need] at hNf hSf
  rw [h.sent] at hSf
  have hSb : M.sq + S ≤ 18446744073709551615 := by omega
  have hNb : N ≤ 1048577 := by omega
  have hSN : S ≤ N := hSf.1
  have hn := h.nb
  have hl0 : ls[j]? = some l := by rw [ht.eq, List.getElem?_append_right (by rw [ht.hj]; exact Nat.le_refl _), ht.hj, Nat.sub_self]; rfl
  obtain ⟨b, o, a, d, rfl, e1, _, hm, _⟩ := h.rr.one hl0
  have hlb : lst ≤ 26 := by rw [hlst]; split <;> omega
  clear hl0 h ht hNf hSf H hlst
  have HK := hide hK
  clear hK
  generalize l.length = m at e1 hroom hm
  have hroom' : (m : Int) + lst ≤ 1500 := by omega
  have hj0 : ((j : Int) + 1 == 0) = false := by rw [beq_eq_false_iff_ne]; omega
  conv => arg 2; whnf
  go_wp2
  exact HK.out _ _ _ _ _ _ _ _ _ _ _ _ _ _ _ _ _ _ _ _ _ _ _ _ _ _ _ _ _ _ _ _ _ _ _ _ _ _ _ _ _ _ _ _ _ _ _ _ _ _ _ _ _ _ _ _ _ _ _ _ _ _ _ _ _ _

set_option maxRecDepth 100000 in
set_option maxHeartbeats 4000000 in
theorem s25 {M : Msg} {ls : List (List Int)} {w W : World} {eT : Nat} {ea : Addr} {rso : Option Addr} {j rc : Nat} {o1 : Option Addr} {n1 c1 k1 : Nat} {er1 : Value} {o2 : Option Addr} {S c2 : Nat} {er2 : Value} {fl N : Nat} (h : Mid M ls w W eT ea rso (j + 1) rc o1 n1 c1 k1 er1 o2 S c2 er2 fl N) {lst : Nat} (hlst : lst = if fl = 0 then 25 else 26) {ini more : List (List Int)} {l x : List Int} (ht : Two M ls ini l x more W j n1 k1)
    (u2 u3 u4 u5 u6 u7 u8 u9 u10 u11 u12 u13 u14 u15 u16 u17 u19 u20 u24 u31 u32 u33 u36 u37 u38 u39 u40 u41 u42 u43 u44 u45 u46 u47 u48 u49 u50 u51 u52 u53 u54 u55 u56 u57 u58 u59 u60 u61 u62 u63 u64 u65 u66 u67 u68 u69 u70 u71 u72 u73 u74 u75 u76 u77 u78 u79 u80 u81 u82 u83 u84 u85 u86 u87 u88 u89 u90 u91 u92 u93 u94 u95 u96 u97 u98 u99 u100 u101 u102 u103 u104 u105 u106 u107 u108 u109 u110 u111 u112 u113 u114 u115 u116 u117 u118 u119 u120 u121 u122 u123 u124 u125 u126 u127 u128 u129 u130 u131 u132 u133 u134 u135 u136 u137 u138 u139 u140 u141 u142 u143 u144 u145 u146 u147 u148 u149 u150 u151 u152 u153 u154 u155 u156 u157 u158 u159 u160 u161 u162 u163 u164 u165 u166 u167 u168 u169 u170 u171 u172 u173 u174 u175 u176 u177 u178 u179 u180 u181 u182 u183 u184 u185 u186 u187 u188 u189 u190 u191 u192 u193 u194 u195 u196 u197 u198 u199 u200 u201 u202 u203 u204 u205 u206 u207 u208 u209 u210 u211 u212 u213 u214 u215 u216 u217 u218 u219 u220 u221 u222 u223 u224 u225 u226 u227 u228 u229 u230 u231 u232 u233 u234 u235 u236 u237 u238 u239 u240 u241 u242 u243 u244 u245 u246 u247 u248 u249 u250 u251 u252 u253 u254 u255 u256 u257 u258 u259 u260 u261 u262 u263 u264 u265 u266 u267 u268 u269 u270 u271 u272 u273 u274 u275 u276 u277 u278 u279 u280 u281 u282 u283 : Value) (K : Act → World → Prop) (Q : Exit → Act → World → Prop)
    (hK : ∀ (qq : Nat) (v16 v232 v233 v234 v235 : Value), K ⟨#[.int .u64 M.ep, .int .u64 M.sq, u2, u3, u4, u5, u6, u7, u8, u9, u10, u11, u12, u13, u14, u15, v16, u17, .slice rso (j + 1) rc, u19, u20, .slice o1 n1 c1, er1, .int .u64 (M.sq + (k1 : Nat)), u24, .slice o2 S c2, er2, .int .u64 (M.sq + (S : Nat)), .int .i64 (fl : Nat), .int .i64 (N : Nat), .int .i64 (S : Nat), u31, u32, u33, .int .i64 ((j + 1 : Nat) : Int), .int .i64 (lst : Nat), u36, u37, u38, u39, u40, u41, u42, u43, u44, u45, u46, u47, u48, u49, u50, u51, u52, u53, u54, u55, u56, u57, u58, u59, u60, u61, u62, u63, u64, u65, u66, u67, u68, u69, u70, u71, u72, u73, u74, u75, u76, u77, u78, u79, u80, u81, u82, u83, u84, u85, u86, u87, u88, u89, u90, u91, u92, u93, u94, u95, u96, u97, u98, u99, u100, u101, u102, u103, u104, u105, u106, u107, u108, u109, u110, u111, u112, u113, u114, u115, u116, u117, u118, u119, u120, u121, u122, u123, u124, u125, u126, u127, u128, u129, u130, u131, u132, u133, u134, u135, u136, u137, u138, u139, u140, u141, u142, u143, u144, u145, u146, u147, u148, u149, u150, u151, u152, u153, u154, u155, u156, u157, u158, u159, u160, u161, u162, u163, u164, u165, u166, u167, u168, u169, u170, u171, u172, u173, u174, u175, u176, u177, u178, u179, u180, u181, u182, u183, u184, u185, u186, u187, u188, u189, u190, u191, u192, u193, u194, u195, u196, u197, u198, u199, u200, u201, u202, u203, u204, u205, u206, u207, u208, u209, u210, u211, u212, u213, u214, u215, u216, u217, u218, u219, u220, u221, u222, u223, u224, u225, u226, u227, u228, u229, u230, u231, v232, v233, v234, v235, u236, u237, u238, u239, u240, u241, u242, u243, u244, u245, u246, u247, u248, u249, u250, u251, u252, u253, u254, u255, u256, u257, u258, u259, u260, u261, u262, u263, u264, u265, u266, u267, u268, u269, u270, u271, u272, u273, u274, u275, u276, u277, u278, u279, u280, u281, u282, u283], []⟩ (W.drewN qq)) :
    Code.wp Tryd.prog (nthS 25 (Tryd.f4.body.getD .skip)) (Exit.then K Q) ⟨#[.int .u64 M.ep, .int .u64 M.sq, u2, u3, u4, u5, u6, u7, u8, u9, u10, u11, u12, u13, u14, u15, u16, u17, .slice rso (j + 1) rc, u19, u20, .slice o1 n1 c1, er1, .int .u64 (M.sq + (k1 : Nat)), u24, .slice o2 S c2, er2, .int .u64 (M.sq + (S : Nat)), .int .i64 (fl : Nat), .int .i64 (N : Nat), .int .i64 (S : Nat), u31, u32, u33, .int .i64 ((j + 1 : Nat) : Int), .int .i64 (lst : Nat), u36, u37, u38, u39, u40, u41, u42, u43, u44, u45, u46, u47, u48, u49, u50, u51, u52, u53, u54, u55, u56, u57, u58, u59, u60, u61, u62, u63, u64, u65, u66, u67, u68, u69, u70, u71, u72, u73, u74, u75, u76, u77, u78, u79, u80, u81, u82, u83, u84, u85, u86, u87, u88, u89, u90, u91, u92, u93, u94, u95, u96, u97, u98, u99, u100, u101, u102, u103, u104, u105, u106, u107, u108, u109, u110, u111, u112, u113, u114, u115, u116, u117, u118, u119, u120, u121, u122, u123, u124, u125, u126, u127, u128, u129, u130, u131, u132, u133, u134, u135, u136, u137, u138, u139, u140, u141, u142, u143, u144, u145, u146, u147, u148, u149, u150, u151, u152, u153, u154, u155, u156, u157, u158, u159, u160, u161, u162, u163, u164, u165, u166, u167, u168, u169, u170, u171, u172, u173, u174, u175, u176, u177, u178, u179, u180, u181, u182, u183, u184, u185, u186, u187, u188, u189, u190, u191, u192, u193, u194, u195, u196, u197, u198, u199, u200, u201, u202, u203, u204, u205, u206, u207, u208, u209, u210, u211, u212, u213, u214, u215, u216, u217, u218, u219, u220, u221, u222, u223, u224, u225, u226, u227, u228, u229, u230, u231, u232, u233, u234, u235, u236, u237, u238, u239, u240, u241, u242, u243, u244, u245, u246, u247, u248, u249, u250, u251, u252, u253, u254, u255, u256, u257, u258, u259, u260, u261, u262, u263, u264, u265, u266, u267, u268, u269, u270, u271, u272, u273, u274, u275, u276, u277, u278, u279, u280, u281, u282, u283], []⟩ W := by
  have H := hide h
  have hsq0 := h.sq0
  have hsq1 := h.sq1
  have hflb := h.flb
  have hNf := need_facts fl
  have hSf := sent_facts fl M.sq
  rw [h.need] at hNf hSf
  rw [h.sent] at hSf
  have hSb : M.sq + S ≤ 18446744073709551615 := by omega
  have hNb : N ≤ 1048577 := by omega
  have hSN : S ≤ N := hSf.1
  have hn := h.nb
  have HE := hide (show Calls Tryd.prog 14 #[.slice o1 n1 c1, .slice rso (j + 1) rc] W fun e w' => e = .returned (.bool true) ∧ ∃ q, w' = W.drewN q from
    ext_any (x := x) (by have := h.r1; rw [ht.st] at this; exact this) (by have := h.rr; rw [ht.eq] at this; exact this) (by have := ht.hn1; omega) (by have := h.n1b; have := out_bound h.out1; rw [h.hfl] at this; omega)
      (fun i hi => by rw [List.append_assoc, List.getElem?_append_left (by rw [ht.hj]; exact hi)]) (by rw [List.append_assoc, List.getElem?_append_right (by rw [ht.hj]; exact Nat.le_refl _), ht.hj, Nat.sub_self]; rfl))
  clear h ht hNf hSf H hlst
  have HK := hide hK
  clear hK
  conv => arg 2; whnf
  go_wp2_with fail
  refine (unhide HE).mono ?_
  rintro e w1 ⟨rfl, q, rfl⟩
  go_wp2
  exact HK.out _ _ _ _ _ _

set_option maxRecDepth 100000 in
set_option maxHeartbeats 4000000 in
theorem t26a {M : Msg} {ls : List (List Int)} {w W : World} {eT : Nat} {ea : Addr} {rso : Option Addr} {j rc : Nat} {o1 : Option Addr} {n1 c1 k1 : Nat} {er1 : Value} {o2 : Option Addr} {S c2 : Nat} {er2 : Value} {fl N : Nat} (h : Mid M ls w W eT ea rso (j + 1) rc o1 n1 c1 k1 er1 o2 S c2 er2 fl N) {lst : Nat} (hlst : lst = if fl = 0 then 25 else 26) {ini more : List (List Int)} {l x : List Int} (ht : Two M ls ini l x more W j n1 k1) (hle : M.sq ≤ 281474976710655)
    (u2 u3 u4 u5 u6 u7 u8 u9 u10 u11 u12 u13 u14 u15 u16 u17 u19 u20 u24 u31 u32 u33 u36 u37 u38 u39 u40 u41 u42 u43 u44 u45 u46 u47 u48 u49 u50 u51 u52 u53 u54 u55 u56 u57 u58 u59 u60 u61 u62 u63 u64 u65 u66 u67 u68 u69 u70 u71 u72 u73 u74 u75 u76 u77 u78 u79 u80 u81 u82 u83 u84 u85 u86 u87 u88 u89 u90 u91 u92 u93 u94 u95 u96 u97 u98 u99 u100 u101 u102 u103 u104 u105 u106 u107 u108 u109 u110 u111 u112 u113 u114 u115 u116 u117 u118 u119 u120 u121 u122 u123 u124 u125 u126 u127 u128 u129 u130 u131 u132 u133 u134 u135 u136 u137 u138 u139 u140 u141 u142 u143 u144 u145 u146 u147 u148 u149 u150 u151 u152 u153 u154 u155 u156 u157 u158 u159 u160 u161 u162 u163 u164 u165 u166 u167 u168 u169 u170 u171 u172 u173 u174 u175 u176 u177 u178 u179 u180 u181 u182 u183 u184 u185 u186 u187 u188 u189 u190 u191 u192 u193 u194 u195 u196 u197 u198 u199 u200 u201 u202 u203 u204 u205 u206 u207 u208 u209 u210 u211 u212 u213 u214 u215 u216 u217 u218 u219 u220 u221 u222 u223 u224 u225 u226 u227 u228 u229 u230 u231 u232 u233 u234 u235 u236 u237 u238 u239 u240 u241 u242 u243 u244 u245 u246 u247 u248 u249 u250 u251 u252 u253 u254 u255 u256 u257 u258 u259 u260 u261 u262 u263 u264 u265 u266 u267 u268 u269 u270 u271 u272 u273 u274 u275 u276 u277 u278 u279 u280 u281 u282 u283 : Value) :
    Code.wp Tryd.prog (dropS 26 (Tryd.f4.body.getD .skip)) (bodyPost Tryd.prog Tryd.f4 (Holds w)) ⟨#[.int .u64 M.ep, .int .u64 M.sq, u2, u3, u4, u5, u6, u7, u8, u9, u10, u11, u12, u13, u14, u15, u16, u17, .slice rso (j + 1) rc, u19, u20, .slice o1 n1 c1, er1, .int .u64 (M.sq + (k1 : Nat)), u24, .slice o2 S c2, er2, .int .u64 (M.sq + (S : Nat)), .int .i64 (fl : Nat), .int .i64 (N : Nat), .int .i64 (S : Nat), u31, u32, u33, .int .i64 ((j + 1 : Nat) : Int), .int .i64 (lst : Nat), u36, u37, u38, u39, u40, u41, u42, u43, u44, u45, u46, u47, u48, u49, u50, u51, u52, u53, u54, u55, u56, u57, u58, u59, u60, u61, u62, u63, u64, u65, u66, u67, u68, u69, u70, u71, u72, u73, u74, u75, u76, u77, u78, u79, u80, u81, u82, u83, u84, u85, u86, u87, u88, u89, u90, u91, u92, u93, u94, u95, u96, u97, u98, u99, u100, u101, u102, u103, u104, u105, u106, u107, u108, u109, u110, u111, u112, u113, u114, u115, u116, u117, u118, u119, u120, u121, u122, u123, u124, u125, u126, u127, u128, u129, u130, u131, u132, u133, u134, u135, u136, u137, u138, u139, u140, u141, u142, u143, u144, u145, u146, u147, u148, u149, u150, u151, u152, u153, u154, u155, u156, u157, u158, u159, u160, u161, u162, u163, u164, u165, u166, u167, u168, u169, u170, u171, u172, u173, u174, u175, u176, u177, u178, u179, u180, u181, u182, u183, u184, u185, u186, u187, u188, u189, u190, u191, u192, u193, u194, u195, u196, u197, u198, u199, u200, u201, u202, u203, u204, u205, u206, u207, u208, u209, u210, u211, u212, u213, u214, u215, u216, u217, u218, u219, u220, u221, u222, u223, u224, u225, u226, u227, u228, u229, u230, u231, u232, u233, u234, u235, u236, u237, u238, u239, u240, u241, u242, u243, u244, u245, u246, u247, u248, u249, u250, u251, u252, u253, u254, u255, u256, u257, u258, u259, u260, u261, u262, u263, u264, u265, u266, u267, u268, u269, u270, u271, u272, u273, u274, u275, u276, u277, u278, u279, u280, u281, u282, u283], []⟩ W := by
  have H := hide h
  have hsq0 := h.sq0
  have hsq1 := h.sq1
  have hflb := h.flb
  have hNf := need_facts fl
  have hSf := sent_facts fl M.sq
  rw [h.need] at hNf hSf
  rw [h.sent] at hSf
  have hSb : M.sq + S ≤ 18446744073709551615 := by omega
  have hNb : N ≤ 1048577 := by omega
  have hSN : S ≤ N := hSf.1
  have hn := h.nb
  have hk1 := (out_any h.out1).1 hle
  have hp := ht.pos hk1.1
  have hl0 : ls[j]? = some l := by rw [ht.eq, List.getElem?_append_right (by rw [ht.hj]; exact Nat.le_refl _), ht.hj, Nat.sub_self]; rfl
  have hl1 : (M.st ls k1).1[j]? = some (l ++ x) := by rw [ht.st, List.append_assoc, List.getElem?_append_right (by rw [ht.hj]; exact Nat.le_refl _), ht.hj, Nat.sub_self]; rfl
  obtain ⟨b, o, a, d, rfl, e1, _, hm, _⟩ := h.rr.one hl0
  obtain ⟨b', o', a', d', rfl, e2, _, hm', _⟩ := h.r1.one hl1
  have FIN := hide h.fin
  rw [List.length_append] at e2 hm'
  have hxx := hp.1
  have hxy := hp.2
  have hj1 : j < n1 := by have := ht.hn1; omega
  have hn1b : n1 ≤ 4000000 := by have := h.n1b; have := out_bound h.out1; rw [h.hfl] at this; omega
  have hk1a := hk1.1
  have hk1b := hk1.2
  clear hl0 hl1 h ht hNf hSf H hlst hp hk1
  generalize hll : l.length = m at e1 e2 hm hm' hxy
  clear hll
  generalize hmx : m + x.length = mx at e2 hm'
  have g1 : (m : Int) < mx := by omega
  have g2 : (mx : Int) ≤ 1500 := by omega
  clear hmx hxx hxy
  have g3 : M.sq < M.sq + k1 := by omega
  conv => arg 2; whnf
  go_wp2
  go_ret
  exact FIN.out 0

set_option maxRecDepth 100000 in
set_option maxHeartbeats 4000000 in
theorem t26b {M : Msg} {ls : List (List Int)} {w W : World} {eT : Nat} {ea : Addr} {rso : Option Addr} {j rc : Nat} {o1 : Option Addr} {n1 c1 k1 : Nat} {er1 : Value} {o2 : Option Addr} {S c2 : Nat} {er2 : Value} {fl N : Nat} (h : Mid M ls w W eT ea rso (j + 1) rc o1 n1 c1 k1 er1 o2 S c2 er2 fl N) {lst : Nat} (hlst : lst = if fl = 0 then 25 else 26) {ini more : List (List Int)} {l x : List Int} (ht : Two M ls ini l x more W j n1 k1) (hle : 281474976710655 < M.sq)
    (u2 u3 u4 u5 u6 u7 u8 u9 u10 u11 u12 u13 u14 u15 u16 u17 u19 u20 u24 u31 u32 u33 u36 u37 u38 u39 u40 u41 u42 u43 u44 u45 u46 u47 u48 u49 u50 u51 u52 u53 u54 u55 u56 u57 u58 u59 u60 u61 u62 u63 u64 u65 u66 u67 u68 u69 u70 u71 u72 u73 u74 u75 u76 u77 u78 u79 u80 u81 u82 u83 u84 u85 u86 u87 u88 u89 u90 u91 u92 u93 u94 u95 u96 u97 u98 u99 u100 u101 u102 u103 u104 u105 u106 u107 u108 u109 u110 u111 u112 u113 u114 u115 u116 u117 u118 u119 u120 u121 u122 u123 u124 u125 u126 u127 u128 u129 u130 u131 u132 u133 u134 u135 u136 u137 u138 u139 u140 u141 u142 u143 u144 u145 u146 u147 u148 u149 u150 u151 u152 u153 u154 u155 u156 u157 u158 u159 u160 u161 u162 u163 u164 u165 u166 u167 u168 u169 u170 u171 u172 u173 u174 u175 u176 u177 u178 u179 u180 u181 u182 u183 u184 u185 u186 u187 u188 u189 u190 u191 u192 u193 u194 u195 u196 u197 u198 u199 u200 u201 u202 u203 u204 u205 u206 u207 u208 u209 u210 u211 u212 u213 u214 u215 u216 u217 u218 u219 u220 u221 u222 u223 u224 u225 u226 u227 u228 u229 u230 u231 u232 u233 u234 u235 u236 u237 u238 u239 u240 u241 u242 u243 u244 u245 u246 u247 u248 u249 u250 u251 u252 u253 u254 u255 u256 u257 u258 u259 u260 u261 u262 u263 u264 u265 u266 u267 u268 u269 u270 u271 u272 u273 u274 u275 u276 u277 u278 u279 u280 u281 u282 u283 : Value) :
    Code.wp Tryd.prog (dropS 26 (Tryd.f4.body.getD .skip)) (bodyPost Tryd.prog Tryd.f4 (Holds w)) ⟨#[.int .u64 M.ep, .int .u64 M.sq, u2, u3, u4, u5, u6, u7, u8, u9, u10, u11, u12, u13, u14, u15, u16, u17, .slice rso (j + 1) rc, u19, u20, .slice o1 n1 c1, er1, .int .u64 (M.sq + (k1 : Nat)), u24, .slice o2 S c2, er2, .int .u64 (M.sq + (S : Nat)), .int .i64 (fl : Nat), .int .i64 (N : Nat), .int .i64 (S : Nat), u31, u32, u33, .int .i64 ((j + 1 : Nat) : Int), .int .i64 (lst : Nat), u36, u37, u38, u39, u40, u41, u42, u43, u44, u45, u46, u47, u48, u49, u50, u51, u52, u53, u54, u55, u56, u57, u58, u59, u60, u61, u62, u63, u64, u65, u66, u67, u68, u69, u70, u71, u72, u73, u74, u75, u76, u77, u78, u79, u80, u81, u82, u83, u84, u85, u86, u87, u88, u89, u90, u91, u92, u93, u94, u95, u96, u97, u98, u99, u100, u101, u102, u103, u104, u105, u106, u107, u108, u109, u110, u111, u112, u113, u114, u115, u116, u117, u118, u119, u120, u121, u122, u123, u124, u125, u126, u127, u128, u129, u130, u131, u132, u133, u134, u135, u136, u137, u138, u139, u140, u141, u142, u143, u144, u145, u146, u147, u148, u149, u150, u151, u152, u153, u154, u155, u156, u157, u158, u159, u160, u161, u162, u163, u164, u165, u166, u167, u168, u169, u170, u171, u172, u173, u174, u175, u176, u177, u178, u179, u180, u181, u182, u183, u184, u185, u186, u187, u188, u189, u190, u191, u192, u193, u194, u195, u196, u197, u198, u199, u200, u201, u202, u203, u204, u205, u206, u207, u208, u209, u210, u211, u212, u213, u214, u215, u216, u217, u218, u219, u220, u221, u222, u223, u224, u225, u226, u227, u228, u229, u230, u231, u232, u233, u234, u235, u236, u237, u238, u239, u240, u241, u242, u243, u244, u245, u246, u247, u248, u249, u250, u251, u252, u253, u254, u255, u256, u257, u258, u259, u260, u261, u262, u263, u264, u265, u266, u267, u268, u269, u270, u271, u272, u273, u274, u275, u276, u277, u278, u279, u280, u281, u282, u283], []⟩ W := by
  have H := hide h
  have hsq0 := h.sq0
  have hsq1 := h.sq1
  have hflb := h.flb
  have hNf := need_facts fl
  have hSf := sent_facts fl M.sq
  rw [h.need] at hNf hSf
  rw [h.sent] at hSf
  have hSb : M.sq + S ≤ 18446744073709551615 := by omega
  have hNb : N ≤ 1048577 := by omega
  have hSN : S ≤ N := hSf.1
  have hn := h.nb
  obtain ⟨hk1, her1⟩ := (out_any h.out1).2 hle
  obtain ⟨hx, hmore⟩ := ht.zero hk1
  have hl0 : ls[j]? = some l := by rw [ht.eq, List.getElem?_append_right (by rw [ht.hj]; exact Nat.le_refl _), ht.hj, Nat.sub_self]; rfl
  have hl1 : (M.st ls k1).1[j]? = some l := by rw [ht.st, hx, List.append_nil, List.append_assoc, List.getElem?_append_right (by rw [ht.hj]; exact Nat.le_refl _), ht.hj, Nat.sub_self]; rfl
  obtain ⟨b, o, b', o', a1, d1, a2, d2, m, ho1, ho2, e1, e2, hm, HS⟩ := pair_rows h.r1 h.rr hl1 hl0
  have FIN := hide h.fin
  have hn1 : n1 = j + 1 := by rw [ht.hn1, hmore]; rfl
  clear hl0 hl1 h ht hNf hSf H hlst
  subst ho1 ho2 hn1 hk1 her1
  have FF := hide (show Calls Tryd.prog 11 #[.slice a1 m d1, .slice a2 m d2] W fun e w' => e = .returned (.bool true) ∧ ∃ q', w' = W.drewN q' from eq_pair (q := 0) rfl HS hm 0)
  conv => arg 2; whnf
  go_wp2_with fail
  refine (unhide FF).mono ?_
  rintro e w1 ⟨rfl, q, rfl⟩
  go_wp2
  go_ret
  exact FIN.out q

end Go.Proofs.Qxb6614518aDoor
