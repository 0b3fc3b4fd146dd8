/-
  OURS. FnRecordLayerSendHandshakeFreshAndFull (f4): its statements 15 to 23, one lemma a statement.
-/
import Derived.Test.Qxb6614518aDoorExtends
import Derived.Test.Qxb6614518aDoorPlain3
import Derived.Deep.DeepCutAuto
namespace Go.Proofs.Qxb6614518aDoor
open Go Go.RowKit
set_option linter.unusedVariables false

/-- It returns true, and what was there is as it was. -/
def Holds (w : World) (e : Ending) (w' : World) : Prop := e = .returned (.bool true) ∧ Below w.heap.size w w'

/-- What is left of a body behind its first n statements. -/
def dropS : Nat → Code → Code
  | 0, c => c
  | n + 1, .seq _ b => dropS n b
  | _, c => c

/-- Statement n of a body. -/
def nthS (n : Nat) (c : Code) : Code := match dropS n c with
  | .seq a _ => a
  | c => c

theorem wp_at {P : Program} {Q : Exit → Act → World → Prop} {a : Act} {w : World} (n : Nat) (c : Code) (hc : dropS n c = .seq (nthS n c) (dropS (n + 1) c)) (h : Code.wp P (nthS n c) (Exit.then (Code.wp P (dropS (n + 1) c) Q) Q) a w) : Code.wp P (dropS n c) Q a w := by
  rw [hc]
  exact wp_seq h

/-- What is known behind the calls. -/
structure Mid (M : Msg) (ls : List (List Int)) (w W : World) (eT : Nat) (ea : Addr) (rso : Option Addr) (n rc : Nat) (o1 : Option Addr) (n1 c1 k1 : Nat) (er1 : Value) (o2 : Option Addr) (S c2 : Nat) (er2 : Value) (fl N : Nat) : Prop where
  hfl : M.body.length = fl
  flb : fl ≤ 1048576
  sq0 : 0 ≤ M.sq
  sq1 : M.sq ≤ 18446744073709551615
  nb : n ≤ 65536
  rr : RowsAt W rso n rc ls
  r1 : RowsAt W o1 n1 c1 (M.st ls k1).1
  n1b : n1 ≤ n + k1
  out1 : Out M ls k1 er1 .nilIface (.iface eT (.pointer (some ea)))
  r2 : RowsAt W o2 S c2 (M.fr 0 0 S)
  need : needN fl = N
  sent : sentN fl M.sq = S
  her2 : (er2 = .nilIface ∧ S = N) ∨ (er2 = .iface eT (.pointer (some ea)) ∧ S < N)
  fin : ∀ q, Holds w (.returned (.bool true)) (W.drewN q)

set_option maxRecDepth 100000 in
set_option maxHeartbeats 4000000 in
theorem s15 {M : Msg} {ls : List (List Int)} {w W : World} {eT : Nat} {ea : Addr} {rso : Option Addr} {n rc : Nat} {o1 : Option Addr} {n1 c1 k1 : Nat} {er1 : Value} {o2 : Option Addr} {S c2 : Nat} {er2 : Value} {fl N : Nat} (h : Mid M ls w W eT ea rso n rc o1 n1 c1 k1 er1 o2 S c2 er2 fl N)
    (u2 u3 u4 u5 u6 u7 u8 u9 u10 u11 u12 u13 u14 u15 u16 u17 u19 u20 u24 u30 u31 u32 u33 u34 u35 u36 u37 u38 u39 u40 u41 u42 u43 u44 u45 u46 u47 u48 u49 u50 u51 u52 u53 u54 u55 u56 u57 u58 u59 u60 u61 u62 u63 u64 u65 u66 u67 u68 u69 u70 u71 u72 u73 u74 u75 u76 u77 u78 u79 u80 u81 u82 u83 u84 u85 u86 u87 u88 u89 u90 u91 u92 u93 u94 u95 u96 u97 u98 u99 u100 u101 u102 u103 u104 u105 u106 u107 u108 u109 u110 u111 u112 u113 u114 u115 u116 u117 u118 u119 u120 u121 u122 u123 u124 u125 u126 u127 u128 u129 u130 u131 u132 u133 u134 u135 u136 u137 u138 u139 u140 u141 u142 u143 u144 u145 u146 u147 u148 u149 u150 u151 u152 u153 u154 u155 u156 u157 u158 u159 u160 u161 u162 u163 u164 u165 u166 u167 u168 u169 u170 u171 u172 u173 u174 u175 u176 u177 u178 u179 u180 u181 u182 u183 u184 u185 u186 u187 u188 u189 u190 u191 u192 u193 u194 u195 u196 u197 u198 u199 u200 u201 u202 u203 u204 u205 u206 u207 u208 u209 u210 u211 u212 u213 u214 u215 u216 u217 u218 u219 u220 u221 u222 u223 u224 u225 u226 u227 u228 u229 u230 u231 u232 u233 u234 u235 u236 u237 u238 u239 u240 u241 u242 u243 u244 u245 u246 u247 u248 u249 u250 u251 u252 u253 u254 u255 u256 u257 u258 u259 u260 u261 u262 u263 u264 u265 u266 u267 u268 u269 u270 u271 u272 u273 u274 u275 u276 u277 u278 u279 u280 u281 u282 u283 : Value) (K : Act → World → Prop) (Q : Exit → Act → World → Prop)
    (hK : ∀ (v107 v108 v109 v110 v111 v112 : Value), K ⟨#[.int .u64 M.ep, .int .u64 M.sq, u2, u3, u4, u5, u6, u7, u8, u9, u10, u11, u12, u13, u14, u15, u16, u17, .slice rso n rc, u19, u20, .slice o1 n1 c1, er1, .int .u64 (M.sq + (k1 : Nat)), u24, .slice o2 S c2, er2, .int .u64 (M.sq + (S : Nat)), .int .i64 (fl : Nat), .int .i64 (N : Nat), u30, u31, u32, u33, u34, u35, u36, u37, u38, u39, u40, u41, u42, u43, u44, u45, u46, u47, u48, u49, u50, u51, u52, u53, u54, u55, u56, u57, u58, u59, u60, u61, u62, u63, u64, u65, u66, u67, u68, u69, u70, u71, u72, u73, u74, u75, u76, u77, u78, u79, u80, u81, u82, u83, u84, u85, u86, u87, u88, u89, u90, u91, u92, u93, u94, u95, u96, u97, u98, u99, u100, u101, u102, u103, u104, u105, u106, v107, v108, v109, v110, v111, v112, u113, u114, u115, u116, u117, u118, u119, u120, u121, u122, u123, u124, u125, u126, u127, u128, u129, u130, u131, u132, u133, u134, u135, u136, u137, u138, u139, u140, u141, u142, u143, u144, u145, u146, u147, u148, u149, u150, u151, u152, u153, u154, u155, u156, u157, u158, u159, u160, u161, u162, u163, u164, u165, u166, u167, u168, u169, u170, u171, u172, u173, u174, u175, u176, u177, u178, u179, u180, u181, u182, u183, u184, u185, u186, u187, u188, u189, u190, u191, u192, u193, u194, u195, u196, u197, u198, u199, u200, u201, u202, u203, u204, u205, u206, u207, u208, u209, u210, u211, u212, u213, u214, u215, u216, u217, u218, u219, u220, u221, u222, u223, u224, u225, u226, u227, u228, u229, u230, u231, u232, u233, u234, u235, u236, u237, u238, u239, u240, u241, u242, u243, u244, u245, u246, u247, u248, u249, u250, u251, u252, u253, u254, u255, u256, u257, u258, u259, u260, u261, u262, u263, u264, u265, u266, u267, u268, u269, u270, u271, u272, u273, u274, u275, u276, u277, u278, u279, u280, u281, u282, u283], []⟩ W) :
    Code.wp Tryd.prog (nthS 15 (Tryd.f4.body.getD .skip)) (Exit.then K Q) ⟨#[.int .u64 M.ep, .int .u64 M.sq, u2, u3, u4, u5, u6, u7, u8, u9, u10, u11, u12, u13, u14, u15, u16, u17, .slice rso n rc, u19, u20, .slice o1 n1 c1, er1, .int .u64 (M.sq + (k1 : Nat)), u24, .slice o2 S c2, er2, .int .u64 (M.sq + (S : Nat)), .int .i64 (fl : Nat), .int .i64 1, u30, u31, u32, u33, u34, u35, u36, u37, u38, u39, u40, u41, u42, u43, u44, u45, u46, u47, u48, u49, u50, u51, u52, u53, u54, u55, u56, u57, u58, u59, u60, u61, u62, u63, u64, u65, u66, u67, u68, u69, u70, u71, u72, u73, u74, u75, u76, u77, u78, u79, u80, u81, u82, u83, u84, u85, u86, u87, u88, u89, u90, u91, u92, u93, u94, u95, u96, u97, u98, u99, u100, u101, u102, u103, u104, u105, u106, u107, u108, u109, u110, u111, u112, u113, u114, u115, u116, u117, u118, u119, u120, u121, u122, u123, u124, u125, u126, u127, u128, u129, u130, u131, u132, u133, u134, u135, u136, u137, u138, u139, u140, u141, u142, u143, u144, u145, u146, u147, u148, u149, u150, u151, u152, u153, u154, u155, u156, u157, u158, u159, u160, u161, u162, u163, u164, u165, u166, u167, u168, u169, u170, u171, u172, u173, u174, u175, u176, u177, u178, u179, u180, u181, u182, u183, u184, u185, u186, u187, u188, u189, u190, u191, u192, u193, u194, u195, u196, u197, u198, u199, u200, u201, u202, u203, u204, u205, u206, u207, u208, u209, u210, u211, u212, u213, u214, u215, u216, u217, u218, u219, u220, u221, u222, u223, u224, u225, u226, u227, u228, u229, u230, u231, u232, u233, u234, u235, u236, u237, u238, u239, u240, u241, u242, u243, u244, u245, u246, u247, u248, u249, u250, u251, u252, u253, u254, u255, u256, u257, u258, u259, u260, u261, u262, u263, u264, u265, u266, u267, u268, u269, u270, u271, u272, u273, u274, u275, u276, u277, u278, u279, u280, u281, u282, u283], []⟩ W := by
  have H := hide h
  have hsq0 := h.sq0
  have hsq1 := h.sq1
  have hflb := h.flb
  have hNf := need_facts fl
  have hSf := sent_facts fl M.sq
  rw [h.need] at hNf hSf
  rw [h.sent] at hSf
  have hNf' := hide hNf
  have hSf' := hide hSf
  have hSb : M.sq + S ≤ 18446744073709551615 := by omega
  have hNb : N ≤ 1048577 := by omega
  have hSN : S ≤ N := hSf.1
  have hn := h.nb
  clear h hNf hSf
  have HK := hide hK
  clear hK
  conv => arg 2; whnf
  by_cases h0 : fl = 0
  · have hN1 : Hid ((1 : Int) = N) := by have := hNf'.out; show (1 : Int) = N; omega
    have hz : (fl : Int) ≤ 0 := by omega
    clear h0
    go_wp2
    rw [hN1.out]
    exact HK.out _ _ _ _ _ _
  · have h0' : (0 : Int) < fl := by omega
    have hN1 : Hid (((fl : Int) + 1475 - 1) / 1475 = N) := by have := hNf'.out; show ((fl : Int) + 1475 - 1) / 1475 = N; omega
    go_wp2
    rw [hN1.out]
    exact HK.out _ _ _ _ _ _

set_option maxRecDepth 100000 in
set_option maxHeartbeats 4000000 in
theorem s17 {M : Msg} {ls : List (List Int)} {w W : World} {eT : Nat} {ea : Addr} {rso : Option Addr} {n rc : Nat} {o1 : Option Addr} {n1 c1 k1 : Nat} {er1 : Value} {o2 : Option Addr} {S c2 : Nat} {er2 : Value} {fl N : Nat} (h : Mid M ls w W eT ea rso n rc o1 n1 c1 k1 er1 o2 S c2 er2 fl N)
    (u2 u3 u4 u5 u6 u7 u8 u9 u10 u11 u12 u13 u14 u15 u16 u17 u19 u20 u24 u31 u32 u33 u34 u35 u36 u37 u38 u39 u40 u41 u42 u43 u44 u45 u46 u47 u48 u49 u50 u51 u52 u53 u54 u55 u56 u57 u58 u59 u60 u61 u62 u63 u64 u65 u66 u67 u68 u69 u70 u71 u72 u73 u74 u75 u76 u77 u78 u79 u80 u81 u82 u83 u84 u85 u86 u87 u88 u89 u90 u91 u92 u93 u94 u95 u96 u97 u98 u99 u100 u101 u102 u103 u104 u105 u106 u107 u108 u109 u110 u111 u112 u113 u114 u115 u116 u117 u118 u119 u120 u121 u122 u123 u124 u125 u126 u127 u128 u129 u130 u131 u132 u133 u134 u135 u136 u137 u138 u139 u140 u141 u142 u143 u144 u145 u146 u147 u148 u149 u150 u151 u152 u153 u154 u155 u156 u157 u158 u159 u160 u161 u162 u163 u164 u165 u166 u167 u168 u169 u170 u171 u172 u173 u174 u175 u176 u177 u178 u179 u180 u181 u182 u183 u184 u185 u186 u187 u188 u189 u190 u191 u192 u193 u194 u195 u196 u197 u198 u199 u200 u201 u202 u203 u204 u205 u206 u207 u208 u209 u210 u211 u212 u213 u214 u215 u216 u217 u218 u219 u220 u221 u222 u223 u224 u225 u226 u227 u228 u229 u230 u231 u232 u233 u234 u235 u236 u237 u238 u239 u240 u241 u242 u243 u244 u245 u246 u247 u248 u249 u250 u251 u252 u253 u254 u255 u256 u257 u258 u259 u260 u261 u262 u263 u264 u265 u266 u267 u268 u269 u270 u271 u272 u273 u274 u275 u276 u277 u278 u279 u280 u281 u282 u283 : Value) (K : Act → World → Prop) (Q : Exit → Act → World → Prop)
    (hK : ∀ (v31 v113 v114 v115 v116 v117 v118 v119 v120 v121 v122 v123 v124 : Value), K ⟨#[.int .u64 M.ep, .int .u64 M.sq, u2, u3, u4, u5, u6, u7, u8, u9, u10, u11, u12, u13, u14, u15, u16, u17, .slice rso n rc, u19, u20, .slice o1 n1 c1, er1, .int .u64 (M.sq + (k1 : Nat)), u24, .slice o2 S c2, er2, .int .u64 (M.sq + (S : Nat)), .int .i64 (fl : Nat), .int .i64 (N : Nat), .int .i64 (S : Nat), v31, u32, u33, u34, u35, u36, u37, u38, u39, u40, u41, u42, u43, u44, u45, u46, u47, u48, u49, u50, u51, u52, u53, u54, u55, u56, u57, u58, u59, u60, u61, u62, u63, u64, u65, u66, u67, u68, u69, u70, u71, u72, u73, u74, u75, u76, u77, u78, u79, u80, u81, u82, u83, u84, u85, u86, u87, u88, u89, u90, u91, u92, u93, u94, u95, u96, u97, u98, u99, u100, u101, u102, u103, u104, u105, u106, u107, u108, u109, u110, u111, u112, v113, v114, v115, v116, v117, v118, v119, v120, v121, v122, v123, v124, u125, u126, u127, u128, u129, u130, u131, u132, u133, u134, u135, u136, u137, u138, u139, u140, u141, u142, u143, u144, u145, u146, u147, u148, u149, u150, u151, u152, u153, u154, u155, u156, u157, u158, u159, u160, u161, u162, u163, u164, u165, u166, u167, u168, u169, u170, u171, u172, u173, u174, u175, u176, u177, u178, u179, u180, u181, u182, u183, u184, u185, u186, u187, u188, u189, u190, u191, u192, u193, u194, u195, u196, u197, u198, u199, u200, u201, u202, u203, u204, u205, u206, u207, u208, u209, u210, u211, u212, u213, u214, u215, u216, u217, u218, u219, u220, u221, u222, u223, u224, u225, u226, u227, u228, u229, u230, u231, u232, u233, u234, u235, u236, u237, u238, u239, u240, u241, u242, u243, u244, u245, u246, u247, u248, u249, u250, u251, u252, u253, u254, u255, u256, u257, u258, u259, u260, u261, u262, u263, u264, u265, u266, u267, u268, u269, u270, u271, u272, u273, u274, u275, u276, u277, u278, u279, u280, u281, u282, u283], []⟩ W) :
    Code.wp Tryd.prog (nthS 17 (Tryd.f4.body.getD .skip)) (Exit.then K Q) ⟨#[.int .u64 M.ep, .int .u64 M.sq, u2, u3, u4, u5, u6, u7, u8, u9, u10, u11, u12, u13, u14, u15, u16, u17, .slice rso n rc, u19, u20, .slice o1 n1 c1, er1, .int .u64 (M.sq + (k1 : Nat)), u24, .slice o2 S c2, er2, .int .u64 (M.sq + (S : Nat)), .int .i64 (fl : Nat), .int .i64 (N : Nat), .int .i64 0, u31, u32, u33, u34, u35, u36, u37, u38, u39, u40, u41, u42, u43, u44, u45, u46, u47, u48, u49, u50, u51, u52, u53, u54, u55, u56, u57, u58, u59, u60, u61, u62, u63, u64, u65, u66, u67, u68, u69, u70, u71, u72, u73, u74, u75, u76, u77, u78, u79, u80, u81, u82, u83, u84, u85, u86, u87, u88, u89, u90, u91, u92, u93, u94, u95, u96, u97, u98, u99, u100, u101, u102, u103, u104, u105, u106, u107, u108, u109, u110, u111, u112, u113, u114, u115, u116, u117, u118, u119, u120, u121, u122, u123, u124, u125, u126, u127, u128, u129, u130, u131, u132, u133, u134, u135, u136, u137, u138, u139, u140, u141, u142, u143, u144, u145, u146, u147, u148, u149, u150, u151, u152, u153, u154, u155, u156, u157, u158, u159, u160, u161, u162, u163, u164, u165, u166, u167, u168, u169, u170, u171, u172, u173, u174, u175, u176, u177, u178, u179, u180, u181, u182, u183, u184, u185, u186, u187, u188, u189, u190, u191, u192, u193, u194, u195, u196, u197, u198, u199, u200, u201, u202, u203, u204, u205, u206, u207, u208, u209, u210, u211, u212, u213, u214, u215, u216, u217, u218, u219, u220, u221, u222, u223, u224, u225, u226, u227, u228, u229, u230, u231, u232, u233, u234, u235, u236, u237, u238, u239, u240, u241, u242, u243, u244, u245, u246, u247, u248, u249, u250, u251, u252, u253, u254, u255, u256, u257, u258, u259, u260, u261, u262, u263, u264, u265, u266, u267, u268, u269, u270, u271, u272, u273, u274, u275, u276, u277, u278, u279, u280, u281, u282, u283], []⟩ W := by
  have H := hide h
  have hsq0 := h.sq0
  have hsq1 := h.sq1
  have hflb := h.flb
  have hNf := need_facts fl
  have hSf := sent_facts fl M.sq
  rw [h.need] at hNf hSf
  rw [h.sent] at hSf
  have hNf' := hide hNf
  have hSf' := hide hSf
  have hSb : M.sq + S ≤ 18446744073709551615 := by omega
  have hNb : N ≤ 1048577 := by omega
  have hSN : S ≤ N := hSf.1
  have hn := h.nb
  clear h hNf hSf
  have HK := hide hK
  clear hK
  conv => arg 2; whnf
  by_cases h0 : M.sq ≤ 281474976710655
  · by_cases h1 : (N : Int) ≤ 281474976710656 - M.sq
    · have hS : S = N := by have := hSf'.out; omega
      have h1' : (N : Int) ≤ 281474976710655 - M.sq + 1 := by omega
      subst hS
      go_wp2
      exact HK.out _ _ _ _ _ _ _ _ _ _ _ _ _
    · have hS : Hid (281474976710655 - M.sq + 1 = (S : Int)) := by have := hSf'.out; show 281474976710655 - M.sq + 1 = (S : Int); omega
      have h1' : 281474976710655 - M.sq + 1 < (N : Int) := by omega
      go_wp2
      rw [hS.out]
      exact HK.out _ _ _ _ _ _ _ _ _ _ _ _ _
  · have hS' : Hid ((0 : Int) = S) := by have := hSf'.out; show (0 : Int) = S; omega
    go_wp2
    rw [hS'.out]
    exact HK.out _ _ _ _ _ _ _ _ _ _ _ _ _

set_option maxRecDepth 100000 in
set_option maxHeartbeats 4000000 in
theorem s18 {M : Msg} {ls : List (List Int)} {w W : World} {eT : Nat} {ea : Addr} {rso : Option Addr} {n rc : Nat} {o1 : Option Addr} {n1 c1 k1 : Nat} {er1 : Value} {o2 : Option Addr} {S c2 : Nat} {er2 : Value} {fl N : Nat} (h : Mid M ls w W eT ea rso n rc o1 n1 c1 k1 er1 o2 S c2 er2 fl N)
    (u2 u3 u4 u5 u6 u7 u8 u9 u10 u11 u12 u13 u14 u15 u16 u17 u19 u20 u24 u31 u32 u33 u34 u35 u36 u37 u38 u39 u40 u41 u42 u43 u44 u45 u46 u47 u48 u49 u50 u51 u52 u53 u54 u55 u56 u57 u58 u59 u60 u61 u62 u63 u64 u65 u66 u67 u68 u69 u70 u71 u72 u73 u74 u75 u76 u77 u78 u79 u80 u81 u82 u83 u84 u85 u86 u87 u88 u89 u90 u91 u92 u93 u94 u95 u96 u97 u98 u99 u100 u101 u102 u103 u104 u105 u106 u107 u108 u109 u110 u111 u112 u113 u114 u115 u116 u117 u118 u119 u120 u121 u122 u123 u124 u125 u126 u127 u128 u129 u130 u131 u132 u133 u134 u135 u136 u137 u138 u139 u140 u141 u142 u143 u144 u145 u146 u147 u148 u149 u150 u151 u152 u153 u154 u155 u156 u157 u158 u159 u160 u161 u162 u163 u164 u165 u166 u167 u168 u169 u170 u171 u172 u173 u174 u175 u176 u177 u178 u179 u180 u181 u182 u183 u184 u185 u186 u187 u188 u189 u190 u191 u192 u193 u194 u195 u196 u197 u198 u199 u200 u201 u202 u203 u204 u205 u206 u207 u208 u209 u210 u211 u212 u213 u214 u215 u216 u217 u218 u219 u220 u221 u222 u223 u224 u225 u226 u227 u228 u229 u230 u231 u232 u233 u234 u235 u236 u237 u238 u239 u240 u241 u242 u243 u244 u245 u246 u247 u248 u249 u250 u251 u252 u253 u254 u255 u256 u257 u258 u259 u260 u261 u262 u263 u264 u265 u266 u267 u268 u269 u270 u271 u272 u273 u274 u275 u276 u277 u278 u279 u280 u281 u282 u283 : Value) (K : Act → World → Prop) (Q : Exit → Act → World → Prop)
    (hK : ∀ (v16 v125 v126 v127 v128 v129 v130 v131 v132 v133 v134 v135 v136 : Value), K ⟨#[.int .u64 M.ep, .int .u64 M.sq, u2, u3, u4, u5, u6, u7, u8, u9, u10, u11, u12, u13, u14, u15, v16, u17, .slice rso n rc, u19, u20, .slice o1 n1 c1, er1, .int .u64 (M.sq + (k1 : Nat)), u24, .slice o2 S c2, er2, .int .u64 (M.sq + (S : Nat)), .int .i64 (fl : Nat), .int .i64 (N : Nat), .int .i64 (S : Nat), u31, u32, u33, u34, u35, u36, u37, u38, u39, u40, u41, u42, u43, u44, u45, u46, u47, u48, u49, u50, u51, u52, u53, u54, u55, u56, u57, u58, u59, u60, u61, u62, u63, u64, u65, u66, u67, u68, u69, u70, u71, u72, u73, u74, u75, u76, u77, u78, u79, u80, u81, u82, u83, u84, u85, u86, u87, u88, u89, u90, u91, u92, u93, u94, u95, u96, u97, u98, u99, u100, u101, u102, u103, u104, u105, u106, u107, u108, u109, u110, u111, u112, u113, u114, u115, u116, u117, u118, u119, u120, u121, u122, u123, u124, v125, v126, v127, v128, v129, v130, v131, v132, v133, v134, v135, v136, u137, u138, u139, u140, u141, u142, u143, u144, u145, u146, u147, u148, u149, u150, u151, u152, u153, u154, u155, u156, u157, u158, u159, u160, u161, u162, u163, u164, u165, u166, u167, u168, u169, u170, u171, u172, u173, u174, u175, u176, u177, u178, u179, u180, u181, u182, u183, u184, u185, u186, u187, u188, u189, u190, u191, u192, u193, u194, u195, u196, u197, u198, u199, u200, u201, u202, u203, u204, u205, u206, u207, u208, u209, u210, u211, u212, u213, u214, u215, u216, u217, u218, u219, u220, u221, u222, u223, u224, u225, u226, u227, u228, u229, u230, u231, u232, u233, u234, u235, u236, u237, u238, u239, u240, u241, u242, u243, u244, u245, u246, u247, u248, u249, u250, u251, u252, u253, u254, u255, u256, u257, u258, u259, u260, u261, u262, u263, u264, u265, u266, u267, u268, u269, u270, u271, u272, u273, u274, u275, u276, u277, u278, u279, u280, u281, u282, u283], []⟩ W) :
    Code.wp Tryd.prog (nthS 18 (Tryd.f4.body.getD .skip)) (Exit.then K Q) ⟨#[.int .u64 M.ep, .int .u64 M.sq, u2, u3, u4, u5, u6, u7, u8, u9, u10, u11, u12, u13, u14, u15, u16, u17, .slice rso n rc, u19, u20, .slice o1 n1 c1, er1, .int .u64 (M.sq + (k1 : Nat)), u24, .slice o2 S c2, er2, .int .u64 (M.sq + (S : Nat)), .int .i64 (fl : Nat), .int .i64 (N : Nat), .int .i64 (S : Nat), u31, u32, u33, u34, u35, u36, u37, u38, u39, u40, u41, u42, u43, u44, u45, u46, u47, u48, u49, u50, u51, u52, u53, u54, u55, u56, u57, u58, u59, u60, u61, u62, u63, u64, u65, u66, u67, u68, u69, u70, u71, u72, u73, u74, u75, u76, u77, u78, u79, u80, u81, u82, u83, u84, u85, u86, u87, u88, u89, u90, u91, u92, u93, u94, u95, u96, u97, u98, u99, u100, u101, u102, u103, u104, u105, u106, u107, u108, u109, u110, u111, u112, u113, u114, u115, u116, u117, u118, u119, u120, u121, u122, u123, u124, u125, u126, u127, u128, u129, u130, u131, u132, u133, u134, u135, u136, u137, u138, u139, u140, u141, u142, u143, u144, u145, u146, u147, u148, u149, u150, u151, u152, u153, u154, u155, u156, u157, u158, u159, u160, u161, u162, u163, u164, u165, u166, u167, u168, u169, u170, u171, u172, u173, u174, u175, u176, u177, u178, u179, u180, u181, u182, u183, u184, u185, u186, u187, u188, u189, u190, u191, u192, u193, u194, u195, u196, u197, u198, u199, u200, u201, u202, u203, u204, u205, u206, u207, u208, u209, u210, u211, u212, u213, u214, u215, u216, u217, u218, u219, u220, u221, u222, u223, u224, u225, u226, u227, u228, u229, u230, u231, u232, u233, u234, u235, u236, u237, u238, u239, u240, u241, u242, u243, u244, u245, u246, u247, u248, u249, u250, u251, u252, u253, u254, u255, u256, u257, u258, u259, u260, u261, u262, u263, u264, u265, u266, u267, u268, u269, u270, u271, u272, u273, u274, u275, u276, u277, u278, u279, u280, u281, u282, u283], []⟩ W := by
  have H := hide h
  have hsq0 := h.sq0
  have hsq1 := h.sq1
  have hflb := h.flb
  have hNf := need_facts fl
  have hSf := sent_facts fl M.sq
  rw [h.need] at hNf hSf
  rw [h.sent] at hSf
  have hNf' := hide hNf
  have hSf' := hide hSf
  have hSb : M.sq + S ≤ 18446744073709551615 := by omega
  have hNb : N ≤ 1048577 := by omega
  have hSN : S ≤ N := hSf.1
  have hn := h.nb
  clear h hNf hSf
  have HK := hide hK
  clear hK
  conv => arg 2; whnf
  go_wp2
  exact HK.out _ _ _ _ _ _ _ _ _ _ _ _ _

set_option maxRecDepth 100000 in
set_option maxHeartbeats 4000000 in
theorem s19 {M : Msg} {ls : List (List Int)} {w W : World} {eT : Nat} {ea : Addr} {rso : Option Addr} {n rc : Nat} {o1 : Option Addr} {n1 c1 k1 : Nat} {er1 : Value} {o2 : Option Addr} {S c2 : Nat} {er2 : Value} {fl N : Nat} (h : Mid M ls w W eT ea rso n rc o1 n1 c1 k1 er1 o2 S c2 er2 fl N)
    (u2 u3 u4 u5 u6 u7 u8 u9 u10 u11 u12 u13 u14 u15 u16 u17 u19 u20 u24 u31 u32 u33 u34 u35 u36 u37 u38 u39 u40 u41 u42 u43 u44 u45 u46 u47 u48 u49 u50 u51 u52 u53 u54 u55 u56 u57 u58 u59 u60 u61 u62 u63 u64 u65 u66 u67 u68 u69 u70 u71 u72 u73 u74 u75 u76 u77 u78 u79 u80 u81 u82 u83 u84 u85 u86 u87 u88 u89 u90 u91 u92 u93 u94 u95 u96 u97 u98 u99 u100 u101 u102 u103 u104 u105 u106 u107 u108 u109 u110 u111 u112 u113 u114 u115 u116 u117 u118 u119 u120 u121 u122 u123 u124 u125 u126 u127 u128 u129 u130 u131 u132 u133 u134 u135 u136 u137 u138 u139 u140 u141 u142 u143 u144 u145 u146 u147 u148 u149 u150 u151 u152 u153 u154 u155 u156 u157 u158 u159 u160 u161 u162 u163 u164 u165 u166 u167 u168 u169 u170 u171 u172 u173 u174 u175 u176 u177 u178 u179 u180 u181 u182 u183 u184 u185 u186 u187 u188 u189 u190 u191 u192 u193 u194 u195 u196 u197 u198 u199 u200 u201 u202 u203 u204 u205 u206 u207 u208 u209 u210 u211 u212 u213 u214 u215 u216 u217 u218 u219 u220 u221 u222 u223 u224 u225 u226 u227 u228 u229 u230 u231 u232 u233 u234 u235 u236 u237 u238 u239 u240 u241 u242 u243 u244 u245 u246 u247 u248 u249 u250 u251 u252 u253 u254 u255 u256 u257 u258 u259 u260 u261 u262 u263 u264 u265 u266 u267 u268 u269 u270 u271 u272 u273 u274 u275 u276 u277 u278 u279 u280 u281 u282 u283 : Value) (K : Act → World → Prop) (Q : Exit → Act → World → Prop)
    (hK : ∀ (v16 v137 v138 v139 v140 v141 v142 : Value), K ⟨#[.int .u64 M.ep, .int .u64 M.sq, u2, u3, u4, u5, u6, u7, u8, u9, u10, u11, u12, u13, u14, u15, v16, u17, .slice rso n rc, u19, u20, .slice o1 n1 c1, er1, .int .u64 (M.sq + (k1 : Nat)), u24, .slice o2 S c2, er2, .int .u64 (M.sq + (S : Nat)), .int .i64 (fl : Nat), .int .i64 (N : Nat), .int .i64 (S : Nat), u31, u32, u33, u34, u35, u36, u37, u38, u39, u40, u41, u42, u43, u44, u45, u46, u47, u48, u49, u50, u51, u52, u53, u54, u55, u56, u57, u58, u59, u60, u61, u62, u63, u64, u65, u66, u67, u68, u69, u70, u71, u72, u73, u74, u75, u76, u77, u78, u79, u80, u81, u82, u83, u84, u85, u86, u87, u88, u89, u90, u91, u92, u93, u94, u95, u96, u97, u98, u99, u100, u101, u102, u103, u104, u105, u106, u107, u108, u109, u110, u111, u112, u113, u114, u115, u116, u117, u118, u119, u120, u121, u122, u123, u124, u125, u126, u127, u128, u129, u130, u131, u132, u133, u134, u135, u136, v137, v138, v139, v140, v141, v142, u143, u144, u145, u146, u147, u148, u149, u150, u151, u152, u153, u154, u155, u156, u157, u158, u159, u160, u161, u162, u163, u164, u165, u166, u167, u168, u169, u170, u171, u172, u173, u174, u175, u176, u177, u178, u179, u180, u181, u182, u183, u184, u185, u186, u187, u188, u189, u190, u191, u192, u193, u194, u195, u196, u197, u198, u199, u200, u201, u202, u203, u204, u205, u206, u207, u208, u209, u210, u211, u212, u213, u214, u215, u216, u217, u218, u219, u220, u221, u222, u223, u224, u225, u226, u227, u228, u229, u230, u231, u232, u233, u234, u235, u236, u237, u238, u239, u240, u241, u242, u243, u244, u245, u246, u247, u248, u249, u250, u251, u252, u253, u254, u255, u256, u257, u258, u259, u260, u261, u262, u263, u264, u265, u266, u267, u268, u269, u270, u271, u272, u273, u274, u275, u276, u277, u278, u279, u280, u281, u282, u283], []⟩ W) :
    Code.wp Tryd.prog (nthS 19 (Tryd.f4.body.getD .skip)) (Exit.then K Q) ⟨#[.int .u64 M.ep, .int .u64 M.sq, u2, u3, u4, u5, u6, u7, u8, u9, u10, u11, u12, u13, u14, u15, u16, u17, .slice rso n rc, u19, u20, .slice o1 n1 c1, er1, .int .u64 (M.sq + (k1 : Nat)), u24, .slice o2 S c2, er2, .int .u64 (M.sq + (S : Nat)), .int .i64 (fl : Nat), .int .i64 (N : Nat), .int .i64 (S : Nat), u31, u32, u33, u34, u35, u36, u37, u38, u39, u40, u41, u42, u43, u44, u45, u46, u47, u48, u49, u50, u51, u52, u53, u54, u55, u56, u57, u58, u59, u60, u61, u62, u63, u64, u65, u66, u67, u68, u69, u70, u71, u72, u73, u74, u75, u76, u77, u78, u79, u80, u81, u82, u83, u84, u85, u86, u87, u88, u89, u90, u91, u92, u93, u94, u95, u96, u97, u98, u99, u100, u101, u102, u103, u104, u105, u106, u107, u108, u109, u110, u111, u112, u113, u114, u115, u116, u117, u118, u119, u120, u121, u122, u123, u124, u125, u126, u127, u128, u129, u130, u131, u132, u133, u134, u135, u136, u137, u138, u139, u140, u141, u142, u143, u144, u145, u146, u147, u148, u149, u150, u151, u152, u153, u154, u155, u156, u157, u158, u159, u160, u161, u162, u163, u164, u165, u166, u167, u168, u169, u170, u171, u172, u173, u174, u175, u176, u177, u178, u179, u180, u181, u182, u183, u184, u185, u186, u187, u188, u189, u190, u191, u192, u193, u194, u195, u196, u197, u198, u199, u200, u201, u202, u203, u204, u205, u206, u207, u208, u209, u210, u211, u212, u213, u214, u215, u216, u217, u218, u219, u220, u221, u222, u223, u224, u225, u226, u227, u228, u229, u230, u231, u232, u233, u234, u235, u236, u237, u238, u239, u240, u241, u242, u243, u244, u245, u246, u247, u248, u249, u250, u251, u252, u253, u254, u255, u256, u257, u258, u259, u260, u261, u262, u263, u264, u265, u266, u267, u268, u269, u270, u271, u272, u273, u274, u275, u276, u277, u278, u279, u280, u281, u282, u283], []⟩ W := by
  have H := hide h
  have hsq0 := h.sq0
  have hsq1 := h.sq1
  have hflb := h.flb
  have hNf := need_facts fl
  have hSf := sent_facts fl M.sq
  rw [h.need] at hNf hSf
  rw [h.sent] at hSf
  have hNf' := hide hNf
  have hSf' := hide hSf
  have hSb : M.sq + S ≤ 18446744073709551615 := by omega
  have hNb : N ≤ 1048577 := by omega
  have hSN : S ≤ N := hSf.1
  have hn := h.nb
  clear h hNf hSf
  have HK := hide hK
  clear hK
  conv => arg 2; whnf
  rcases H.out.her2 with ⟨he, hS⟩ | ⟨he, hS⟩
  · subst he
    have hge : (N : Int) ≤ S := by omega
    clear hS
    go_wp2
    exact HK.out _ _ _ _ _ _ _
  · subst he
    have hd : decide ((S : Int) < N) = true := by simp; omega
    go_wp2
    exact HK.out _ _ _ _ _ _ _
set_option maxRecDepth 100000 in
set_option maxHeartbeats 4000000 in
theorem s16 {M : Msg} {ls : List (List Int)} {w W : World} {eT : Nat} {ea : Addr} {rso : Option Addr} {n rc : Nat} {o1 : Option Addr} {n1 c1 k1 : Nat} {er1 : Value} {o2 : Option Addr} {S c2 : Nat} {er2 : Value} {fl N : Nat} (h : Mid M ls w W eT ea rso n rc o1 n1 c1 k1 er1 o2 S c2 er2 fl N)
    (u2 u3 u4 u5 u6 u7 u8 u9 u10 u11 u12 u13 u14 u15 u16 u17 u19 u20 u24 u30 u31 u32 u33 u34 u35 u36 u37 u38 u39 u40 u41 u42 u43 u44 u45 u46 u47 u48 u49 u50 u51 u52 u53 u54 u55 u56 u57 u58 u59 u60 u61 u62 u63 u64 u65 u66 u67 u68 u69 u70 u71 u72 u73 u74 u75 u76 u77 u78 u79 u80 u81 u82 u83 u84 u85 u86 u87 u88 u89 u90 u91 u92 u93 u94 u95 u96 u97 u98 u99 u100 u101 u102 u103 u104 u105 u106 u107 u108 u109 u110 u111 u112 u113 u114 u115 u116 u117 u118 u119 u120 u121 u122 u123 u124 u125 u126 u127 u128 u129 u130 u131 u132 u133 u134 u135 u136 u137 u138 u139 u140 u141 u142 u143 u144 u145 u146 u147 u148 u149 u150 u151 u152 u153 u154 u155 u156 u157 u158 u159 u160 u161 u162 u163 u164 u165 u166 u167 u168 u169 u170 u171 u172 u173 u174 u175 u176 u177 u178 u179 u180 u181 u182 u183 u184 u185 u186 u187 u188 u189 u190 u191 u192 u193 u194 u195 u196 u197 u198 u199 u200 u201 u202 u203 u204 u205 u206 u207 u208 u209 u210 u211 u212 u213 u214 u215 u216 u217 u218 u219 u220 u221 u222 u223 u224 u225 u226 u227 u228 u229 u230 u231 u232 u233 u234 u235 u236 u237 u238 u239 u240 u241 u242 u243 u244 u245 u246 u247 u248 u249 u250 u251 u252 u253 u254 u255 u256 u257 u258 u259 u260 u261 u262 u263 u264 u265 u266 u267 u268 u269 u270 u271 u272 u273 u274 u275 u276 u277 u278 u279 u280 u281 u282 u283 : Value) (K : Act → World → Prop) (Q : Exit → Act → World → Prop)
    (hK : K ⟨#[.int .u64 M.ep, .int .u64 M.sq, u2, u3, u4, u5, u6, u7, u8, u9, u10, u11, u12, u13, u14, u15, u16, u17, .slice rso n rc, u19, u20, .slice o1 n1 c1, er1, .int .u64 (M.sq + (k1 : Nat)), u24, .slice o2 S c2, er2, .int .u64 (M.sq + (S : Nat)), .int .i64 (fl : Nat), .int .i64 (N : Nat), .int .i64 0, u31, u32, u33, u34, u35, u36, u37, u38, u39, u40, u41, u42, u43, u44, u45, u46, u47, u48, u49, u50, u51, u52, u53, u54, u55, u56, u57, u58, u59, u60, u61, u62, u63, u64, u65, u66, u67, u68, u69, u70, u71, u72, u73, u74, u75, u76, u77, u78, u79, u80, u81, u82, u83, u84, u85, u86, u87, u88, u89, u90, u91, u92, u93, u94, u95, u96, u97, u98, u99, u100, u101, u102, u103, u104, u105, u106, u107, u108, u109, u110, u111, u112, u113, u114, u115, u116, u117, u118, u119, u120, u121, u122, u123, u124, u125, u126, u127, u128, u129, u130, u131, u132, u133, u134, u135, u136, u137, u138, u139, u140, u141, u142, u143, u144, u145, u146, u147, u148, u149, u150, u151, u152, u153, u154, u155, u156, u157, u158, u159, u160, u161, u162, u163, u164, u165, u166, u167, u168, u169, u170, u171, u172, u173, u174, u175, u176, u177, u178, u179, u180, u181, u182, u183, u184, u185, u186, u187, u188, u189, u190, u191, u192, u193, u194, u195, u196, u197, u198, u199, u200, u201, u202, u203, u204, u205, u206, u207, u208, u209, u210, u211, u212, u213, u214, u215, u216, u217, u218, u219, u220, u221, u222, u223, u224, u225, u226, u227, u228, u229, u230, u231, u232, u233, u234, u235, u236, u237, u238, u239, u240, u241, u242, u243, u244, u245, u246, u247, u248, u249, u250, u251, u252, u253, u254, u255, u256, u257, u258, u259, u260, u261, u262, u263, u264, u265, u266, u267, u268, u269, u270, u271, u272, u273, u274, u275, u276, u277, u278, u279, u280, u281, u282, u283], []⟩ W) :
    Code.wp Tryd.prog (nthS 16 (Tryd.f4.body.getD .skip)) (Exit.then K Q) ⟨#[.int .u64 M.ep, .int .u64 M.sq, u2, u3, u4, u5, u6, u7, u8, u9, u10, u11, u12, u13, u14, u15, u16, u17, .slice rso n rc, u19, u20, .slice o1 n1 c1, er1, .int .u64 (M.sq + (k1 : Nat)), u24, .slice o2 S c2, er2, .int .u64 (M.sq + (S : Nat)), .int .i64 (fl : Nat), .int .i64 (N : Nat), u30, u31, u32, u33, u34, u35, u36, u37, u38, u39, u40, u41, u42, u43, u44, u45, u46, u47, u48, u49, u50, u51, u52, u53, u54, u55, u56, u57, u58, u59, u60, u61, u62, u63, u64, u65, u66, u67, u68, u69, u70, u71, u72, u73, u74, u75, u76, u77, u78, u79, u80, u81, u82, u83, u84, u85, u86, u87, u88, u89, u90, u91, u92, u93, u94, u95, u96, u97, u98, u99, u100, u101, u102, u103, u104, u105, u106, u107, u108, u109, u110, u111, u112, u113, u114, u115, u116, u117, u118, u119, u120, u121, u122, u123, u124, u125, u126, u127, u128, u129, u130, u131, u132, u133, u134, u135, u136, u137, u138, u139, u140, u141, u142, u143, u144, u145, u146, u147, u148, u149, u150, u151, u152, u153, u154, u155, u156, u157, u158, u159, u160, u161, u162, u163, u164, u165, u166, u167, u168, u169, u170, u171, u172, u173, u174, u175, u176, u177, u178, u179, u180, u181, u182, u183, u184, u185, u186, u187, u188, u189, u190, u191, u192, u193, u194, u195, u196, u197, u198, u199, u200, u201, u202, u203, u204, u205, u206, u207, u208, u209, u210, u211, u212, u213, u214, u215, u216, u217, u218, u219, u220, u221, u222, u223, u224, u225, u226, u227, u228, u229, u230, u231, u232, u233, u234, u235, u236, u237, u238, u239, u240, u241, u242, u243, u244, u245, u246, u247, u248, u249, u250, u251, u252, u253, u254, u255, u256, u257, u258, u259, u260, u261, u262, u263, u264, u265, u266, u267, u268, u269, u270, u271, u272, u273, u274, u275, u276, u277, u278, u279, u280, u281, u282, u283], []⟩ W := by
  have H := hide h
  have hsq0 := h.sq0
  have hsq1 := h.sq1
  have hflb := h.flb
  have hNf := need_facts fl
  have hSf := sent_facts fl M.sq
  rw [h.need] at hNf hSf
  rw [h.sent] at hSf
  have hNf' := hide hNf
  have hSf' := hide hSf
  have hSb : M.sq + S ≤ 18446744073709551615 := by omega
  have hNb : N ≤ 1048577 := by omega
  have hSN : S ≤ N := hSf.1
  have hn := h.nb
  clear h hNf hSf
  have HK := hide hK
  clear hK
  conv => arg 2; whnf
  go_wp2
  exact HK.out

set_option maxRecDepth 100000 in
set_option maxHeartbeats 4000000 in
theorem s20 {M : Msg} {ls : List (List Int)} {w W : World} {eT : Nat} {ea : Addr} {rso : Option Addr} {n rc : Nat} {o1 : Option Addr} {n1 c1 k1 : Nat} {er1 : Value} {o2 : Option Addr} {S c2 : Nat} {er2 : Value} {fl N : Nat} (h : Mid M ls w W eT ea rso n rc o1 n1 c1 k1 er1 o2 S c2 er2 fl N)
    (u2 u3 u4 u5 u6 u7 u8 u9 u10 u11 u12 u13 u14 u15 u16 u17 u19 u20 u24 u31 u32 u33 u34 u35 u36 u37 u38 u39 u40 u41 u42 u43 u44 u45 u46 u47 u48 u49 u50 u51 u52 u53 u54 u55 u56 u57 u58 u59 u60 u61 u62 u63 u64 u65 u66 u67 u68 u69 u70 u71 u72 u73 u74 u75 u76 u77 u78 u79 u80 u81 u82 u83 u84 u85 u86 u87 u88 u89 u90 u91 u92 u93 u94 u95 u96 u97 u98 u99 u100 u101 u102 u103 u104 u105 u106 u107 u108 u109 u110 u111 u112 u113 u114 u115 u116 u117 u118 u119 u120 u121 u122 u123 u124 u125 u126 u127 u128 u129 u130 u131 u132 u133 u134 u135 u136 u137 u138 u139 u140 u141 u142 u143 u144 u145 u146 u147 u148 u149 u150 u151 u152 u153 u154 u155 u156 u157 u158 u159 u160 u161 u162 u163 u164 u165 u166 u167 u168 u169 u170 u171 u172 u173 u174 u175 u176 u177 u178 u179 u180 u181 u182 u183 u184 u185 u186 u187 u188 u189 u190 u191 u192 u193 u194 u195 u196 u197 u198 u199 u200 u201 u202 u203 u204 u205 u206 u207 u208 u209 u210 u211 u212 u213 u214 u215 u216 u217 u218 u219 u220 u221 u222 u223 u224 u225 u226 u227 u228 u229 u230 u231 u232 u233 u234 u235 u236 u237 u238 u239 u240 u241 u242 u243 u244 u245 u246 u247 u248 u249 u250 u251 u252 u253 u254 u255 u256 u257 u258 u259 u260 u261 u262 u263 u264 u265 u266 u267 u268 u269 u270 u271 u272 u273 u274 u275 u276 u277 u278 u279 u280 u281 u282 u283 : Value) (K : Act → World → Prop) (Q : Exit → Act → World → Prop)
    (hK : ∀ (v16 v32 v33 v143 v144 v145 v146 v147 v148 v149 v150 v151 v152 v153 v154 v155 v156 v157 v158 v159 v160 v161 v162 v163 v164 : Value), K ⟨#[.int .u64 M.ep, .int .u64 M.sq, u2, u3, u4, u5, u6, u7, u8, u9, u10, u11, u12, u13, u14, u15, v16, u17, .slice rso n rc, u19, u20, .slice o1 n1 c1, er1, .int .u64 (M.sq + (k1 : Nat)), u24, .slice o2 S c2, er2, .int .u64 (M.sq + (S : Nat)), .int .i64 (fl : Nat), .int .i64 (N : Nat), .int .i64 (S : Nat), u31, v32, v33, u34, u35, u36, u37, u38, u39, u40, u41, u42, u43, u44, u45, u46, u47, u48, u49, u50, u51, u52, u53, u54, u55, u56, u57, u58, u59, u60, u61, u62, u63, u64, u65, u66, u67, u68, u69, u70, u71, u72, u73, u74, u75, u76, u77, u78, u79, u80, u81, u82, u83, u84, u85, u86, u87, u88, u89, u90, u91, u92, u93, u94, u95, u96, u97, u98, u99, u100, u101, u102, u103, u104, u105, u106, u107, u108, u109, u110, u111, u112, u113, u114, u115, u116, u117, u118, u119, u120, u121, u122, u123, u124, u125, u126, u127, u128, u129, u130, u131, u132, u133, u134, u135, u136, u137, u138, u139, u140, u141, u142, v143, v144, v145, v146, v147, v148, v149, v150, v151, v152, v153, v154, v155, v156, v157, v158, v159, v160, v161, v162, v163, v164, u165, u166, u167, u168, u169, u170, u171, u172, u173, u174, u175, u176, u177, u178, u179, u180, u181, u182, u183, u184, u185, u186, u187, u188, u189, u190, u191, u192, u193, u194, u195, u196, u197, u198, u199, u200, u201, u202, u203, u204, u205, u206, u207, u208, u209, u210, u211, u212, u213, u214, u215, u216, u217, u218, u219, u220, u221, u222, u223, u224, u225, u226, u227, u228, u229, u230, u231, u232, u233, u234, u235, u236, u237, u238, u239, u240, u241, u242, u243, u244, u245, u246, u247, u248, u249, u250, u251, u252, u253, u254, u255, u256, u257, u258, u259, u260, u261, u262, u263, u264, u265, u266, u267, u268, u269, u270, u271, u272, u273, u274, u275, u276, u277, u278, u279, u280, u281, u282, u283], []⟩ W) :
    Code.wp Tryd.prog (nthS 20 (Tryd.f4.body.getD .skip)) (Exit.then K Q) ⟨#[.int .u64 M.ep, .int .u64 M.sq, u2, u3, u4, u5, u6, u7, u8, u9, u10, u11, u12, u13, u14, u15, u16, u17, .slice rso n rc, u19, u20, .slice o1 n1 c1, er1, .int .u64 (M.sq + (k1 : Nat)), u24, .slice o2 S c2, er2, .int .u64 (M.sq + (S : Nat)), .int .i64 (fl : Nat), .int .i64 (N : Nat), .int .i64 (S : Nat), u31, u32, u33, u34, u35, u36, u37, u38, u39, u40, u41, u42, u43, u44, u45, u46, u47, u48, u49, u50, u51, u52, u53, u54, u55, u56, u57, u58, u59, u60, u61, u62, u63, u64, u65, u66, u67, u68, u69, u70, u71, u72, u73, u74, u75, u76, u77, u78, u79, u80, u81, u82, u83, u84, u85, u86, u87, u88, u89, u90, u91, u92, u93, u94, u95, u96, u97, u98, u99, u100, u101, u102, u103, u104, u105, u106, u107, u108, u109, u110, u111, u112, u113, u114, u115, u116, u117, u118, u119, u120, u121, u122, u123, u124, u125, u126, u127, u128, u129, u130, u131, u132, u133, u134, u135, u136, u137, u138, u139, u140, u141, u142, u143, u144, u145, u146, u147, u148, u149, u150, u151, u152, u153, u154, u155, u156, u157, u158, u159, u160, u161, u162, u163, u164, u165, u166, u167, u168, u169, u170, u171, u172, u173, u174, u175, u176, u177, u178, u179, u180, u181, u182, u183, u184, u185, u186, u187, u188, u189, u190, u191, u192, u193, u194, u195, u196, u197, u198, u199, u200, u201, u202, u203, u204, u205, u206, u207, u208, u209, u210, u211, u212, u213, u214, u215, u216, u217, u218, u219, u220, u221, u222, u223, u224, u225, u226, u227, u228, u229, u230, u231, u232, u233, u234, u235, u236, u237, u238, u239, u240, u241, u242, u243, u244, u245, u246, u247, u248, u249, u250, u251, u252, u253, u254, u255, u256, u257, u258, u259, u260, u261, u262, u263, u264, u265, u266, u267, u268, u269, u270, u271, u272, u273, u274, u275, u276, u277, u278, u279, u280, u281, u282, u283], []⟩ W := by
  have H := hide h
  have hsq0 := h.sq0
  have hsq1 := h.sq1
  have hflb := h.flb
  have hNf := need_facts fl
  have hSf := sent_facts fl M.sq
  rw [h.need] at hNf hSf
  rw [h.sent] at hSf
  have hNf' := hide hNf
  have hSf' := hide hSf
  have hSb : M.sq + S ≤ 18446744073709551615 := by omega
  have hNb : N ≤ 1048577 := by omega
  have hSN : S ≤ N := hSf.1
  have hn := h.nb
  clear h hNf hSf
  have HK := hide hK
  clear hK
  conv => arg 2; whnf
  go_wp2_with fail
  go_loop [32] (fun i => ∃ k : Nat, k ≤ S ∧ i = .int .i64 k) (fun i => S - (intOf i).toNat)
  case atStart => exact ⟨0, Nat.zero_le _, rfl⟩
  case round =>
    obtain ⟨k, hk, rfl⟩ := hrel
    by_cases hlt : k < S
    · have hg := M.fr_get 0 0 S k hlt
      have hlen : (M.rc (0 + k) (0 + 1475 * k) (min (M.body.length - (0 + 1475 * k)) 1475)).length = 25 + min (fl - 1475 * k) 1475 := by
        have hf := hNf'.out
        rw [M.length_rc _ _ _ (by rw [H.out.hfl]; omega), H.out.hfl]
        omega
      obtain ⟨b, o, a, c', rfl, e1, _, hm, _⟩ := H.out.r2.one hg
      rw [hlen] at e1
      clear hg hlen hm
      generalize hmm : 25 + min (fl - 1475 * k) 1475 = m at e1
      by_cases hkN : k + 1 = N
      · have f1 : (k : Int) ≤ N - 1 := by omega
        have f2 : (N : Int) - 1 ≤ k := by omega
        have f3 : (m : Int) ≤ 25 + (fl - 1475 * (N - 1)) := by have := hNf'.out; omega
        have f4 : 25 + ((fl : Int) - 1475 * (N - 1)) ≤ m := by have := hNf'.out; omega
        clear hkN hmm
        go_wp2
        go_round
        case rel => exact ⟨k + 1, by omega, by go_num⟩
        case measure => simp [intOf]; omega
      · have f1 : (k : Int) < N - 1 := by omega
        have f3 : (m : Int) ≤ 1500 := by omega
        have f4 : (1500 : Int) ≤ m := by have := hNf'.out; omega
        clear hkN hmm
        go_wp2
        go_round
        case rel => exact ⟨k + 1, by omega, by go_num⟩
        case measure => simp [intOf]; omega
    · go_wp2
      exact HK.out _ _ _ _ _ _ _ _ _ _ _ _ _ _ _ _ _ _ _ _ _ _ _ _ _

set_option maxRecDepth 100000 in
set_option maxHeartbeats 4000000 in
theorem s21 {M : Msg} {ls : List (List Int)} {w W : World} {eT : Nat} {ea : Addr} {rso : Option Addr} {n rc : Nat} {o1 : Option Addr} {n1 c1 k1 : Nat} {er1 : Value} {o2 : Option Addr} {S c2 : Nat} {er2 : Value} {fl N : Nat} (h : Mid M ls w W eT ea rso n rc o1 n1 c1 k1 er1 o2 S c2 er2 fl N)
    (u2 u3 u4 u5 u6 u7 u8 u9 u10 u11 u12 u13 u14 u15 u16 u17 u19 u20 u24 u31 u32 u33 u34 u35 u36 u37 u38 u39 u40 u41 u42 u43 u44 u45 u46 u47 u48 u49 u50 u51 u52 u53 u54 u55 u56 u57 u58 u59 u60 u61 u62 u63 u64 u65 u66 u67 u68 u69 u70 u71 u72 u73 u74 u75 u76 u77 u78 u79 u80 u81 u82 u83 u84 u85 u86 u87 u88 u89 u90 u91 u92 u93 u94 u95 u96 u97 u98 u99 u100 u101 u102 u103 u104 u105 u106 u107 u108 u109 u110 u111 u112 u113 u114 u115 u116 u117 u118 u119 u120 u121 u122 u123 u124 u125 u126 u127 u128 u129 u130 u131 u132 u133 u134 u135 u136 u137 u138 u139 u140 u141 u142 u143 u144 u145 u146 u147 u148 u149 u150 u151 u152 u153 u154 u155 u156 u157 u158 u159 u160 u161 u162 u163 u164 u165 u166 u167 u168 u169 u170 u171 u172 u173 u174 u175 u176 u177 u178 u179 u180 u181 u182 u183 u184 u185 u186 u187 u188 u189 u190 u191 u192 u193 u194 u195 u196 u197 u198 u199 u200 u201 u202 u203 u204 u205 u206 u207 u208 u209 u210 u211 u212 u213 u214 u215 u216 u217 u218 u219 u220 u221 u222 u223 u224 u225 u226 u227 u228 u229 u230 u231 u232 u233 u234 u235 u236 u237 u238 u239 u240 u241 u242 u243 u244 u245 u246 u247 u248 u249 u250 u251 u252 u253 u254 u255 u256 u257 u258 u259 u260 u261 u262 u263 u264 u265 u266 u267 u268 u269 u270 u271 u272 u273 u274 u275 u276 u277 u278 u279 u280 u281 u282 u283 : Value) (K : Act → World → Prop) (Q : Exit → Act → World → Prop)
    (hK : ∀ (v165 v166 : Value), K ⟨#[.int .u64 M.ep, .int .u64 M.sq, u2, u3, u4, u5, u6, u7, u8, u9, u10, u11, u12, u13, u14, u15, u16, u17, .slice rso n rc, u19, u20, .slice o1 n1 c1, er1, .int .u64 (M.sq + (k1 : Nat)), u24, .slice o2 S c2, er2, .int .u64 (M.sq + (S : Nat)), .int .i64 (fl : Nat), .int .i64 (N : Nat), .int .i64 (S : Nat), u31, u32, u33, .int .i64 (n : Nat), u35, u36, u37, u38, u39, u40, u41, u42, u43, u44, u45, u46, u47, u48, u49, u50, u51, u52, u53, u54, u55, u56, u57, u58, u59, u60, u61, u62, u63, u64, u65, u66, u67, u68, u69, u70, u71, u72, u73, u74, u75, u76, u77, u78, u79, u80, u81, u82, u83, u84, u85, u86, u87, u88, u89, u90, u91, u92, u93, u94, u95, u96, u97, u98, u99, u100, u101, u102, u103, u104, u105, u106, u107, u108, u109, u110, u111, u112, u113, u114, u115, u116, u117, u118, u119, u120, u121, u122, u123, u124, u125, u126, u127, u128, u129, u130, u131, u132, u133, u134, u135, u136, u137, u138, u139, u140, u141, u142, u143, u144, u145, u146, u147, u148, u149, u150, u151, u152, u153, u154, u155, u156, u157, u158, u159, u160, u161, u162, u163, u164, v165, v166, u167, u168, u169, u170, u171, u172, u173, u174, u175, u176, u177, u178, u179, u180, u181, u182, u183, u184, u185, u186, u187, u188, u189, u190, u191, u192, u193, u194, u195, u196, u197, u198, u199, u200, u201, u202, u203, u204, u205, u206, u207, u208, u209, u210, u211, u212, u213, u214, u215, u216, u217, u218, u219, u220, u221, u222, u223, u224, u225, u226, u227, u228, u229, u230, u231, u232, u233, u234, u235, u236, u237, u238, u239, u240, u241, u242, u243, u244, u245, u246, u247, u248, u249, u250, u251, u252, u253, u254, u255, u256, u257, u258, u259, u260, u261, u262, u263, u264, u265, u266, u267, u268, u269, u270, u271, u272, u273, u274, u275, u276, u277, u278, u279, u280, u281, u282, u283], []⟩ W) :
    Code.wp Tryd.prog (nthS 21 (Tryd.f4.body.getD .skip)) (Exit.then K Q) ⟨#[.int .u64 M.ep, .int .u64 M.sq, u2, u3, u4, u5, u6, u7, u8, u9, u10, u11, u12, u13, u14, u15, u16, u17, .slice rso n rc, u19, u20, .slice o1 n1 c1, er1, .int .u64 (M.sq + (k1 : Nat)), u24, .slice o2 S c2, er2, .int .u64 (M.sq + (S : Nat)), .int .i64 (fl : Nat), .int .i64 (N : Nat), .int .i64 (S : Nat), u31, u32, u33, u34, u35, u36, u37, u38, u39, u40, u41, u42, u43, u44, u45, u46, u47, u48, u49, u50, u51, u52, u53, u54, u55, u56, u57, u58, u59, u60, u61, u62, u63, u64, u65, u66, u67, u68, u69, u70, u71, u72, u73, u74, u75, u76, u77, u78, u79, u80, u81, u82, u83, u84, u85, u86, u87, u88, u89, u90, u91, u92, u93, u94, u95, u96, u97, u98, u99, u100, u101, u102, u103, u104, u105, u106, u107, u108, u109, u110, u111, u112, u113, u114, u115, u116, u117, u118, u119, u120, u121, u122, u123, u124, u125, u126, u127, u128, u129, u130, u131, u132, u133, u134, u135, u136, u137, u138, u139, u140, u141, u142, u143, u144, u145, u146, u147, u148, u149, u150, u151, u152, u153, u154, u155, u156, u157, u158, u159, u160, u161, u162, u163, u164, u165, u166, u167, u168, u169, u170, u171, u172, u173, u174, u175, u176, u177, u178, u179, u180, u181, u182, u183, u184, u185, u186, u187, u188, u189, u190, u191, u192, u193, u194, u195, u196, u197, u198, u199, u200, u201, u202, u203, u204, u205, u206, u207, u208, u209, u210, u211, u212, u213, u214, u215, u216, u217, u218, u219, u220, u221, u222, u223, u224, u225, u226, u227, u228, u229, u230, u231, u232, u233, u234, u235, u236, u237, u238, u239, u240, u241, u242, u243, u244, u245, u246, u247, u248, u249, u250, u251, u252, u253, u254, u255, u256, u257, u258, u259, u260, u261, u262, u263, u264, u265, u266, u267, u268, u269, u270, u271, u272, u273, u274, u275, u276, u277, u278, u279, u280, u281, u282, u283], []⟩ W := by
  have H := hide h
  have hsq0 := h.sq0
  have hsq1 := h.sq1
  have hflb := h.flb
  have hNf := need_facts fl
  have hSf := sent_facts fl M.sq
  rw [h.need] at hNf hSf
  rw [h.sent] at hSf
  have hNf' := hide hNf
  have hSf' := hide hSf
  have hSb : M.sq + S ≤ 18446744073709551615 := by omega
  have hNb : N ≤ 1048577 := by omega
  have hSN : S ≤ N := hSf.1
  have hn := h.nb
  clear h hNf hSf
  have HK := hide hK
  clear hK
  conv => arg 2; whnf
  go_wp2
  exact HK.out _ _

set_option maxRecDepth 100000 in
set_option maxHeartbeats 4000000 in
theorem s22 {M : Msg} {ls : List (List Int)} {w W : World} {eT : Nat} {ea : Addr} {rso : Option Addr} {n rc : Nat} {o1 : Option Addr} {n1 c1 k1 : Nat} {er1 : Value} {o2 : Option Addr} {S c2 : Nat} {er2 : Value} {fl N : Nat} (h : Mid M ls w W eT ea rso n rc o1 n1 c1 k1 er1 o2 S c2 er2 fl N)
    (u2 u3 u4 u5 u6 u7 u8 u9 u10 u11 u12 u13 u14 u15 u16 u17 u19 u20 u24 u31 u32 u33 u35 u36 u37 u38 u39 u40 u41 u42 u43 u44 u45 u46 u47 u48 u49 u50 u51 u52 u53 u54 u55 u56 u57 u58 u59 u60 u61 u62 u63 u64 u65 u66 u67 u68 u69 u70 u71 u72 u73 u74 u75 u76 u77 u78 u79 u80 u81 u82 u83 u84 u85 u86 u87 u88 u89 u90 u91 u92 u93 u94 u95 u96 u97 u98 u99 u100 u101 u102 u103 u104 u105 u106 u107 u108 u109 u110 u111 u112 u113 u114 u115 u116 u117 u118 u119 u120 u121 u122 u123 u124 u125 u126 u127 u128 u129 u130 u131 u132 u133 u134 u135 u136 u137 u138 u139 u140 u141 u142 u143 u144 u145 u146 u147 u148 u149 u150 u151 u152 u153 u154 u155 u156 u157 u158 u159 u160 u161 u162 u163 u164 u165 u166 u167 u168 u169 u170 u171 u172 u173 u174 u175 u176 u177 u178 u179 u180 u181 u182 u183 u184 u185 u186 u187 u188 u189 u190 u191 u192 u193 u194 u195 u196 u197 u198 u199 u200 u201 u202 u203 u204 u205 u206 u207 u208 u209 u210 u211 u212 u213 u214 u215 u216 u217 u218 u219 u220 u221 u222 u223 u224 u225 u226 u227 u228 u229 u230 u231 u232 u233 u234 u235 u236 u237 u238 u239 u240 u241 u242 u243 u244 u245 u246 u247 u248 u249 u250 u251 u252 u253 u254 u255 u256 u257 u258 u259 u260 u261 u262 u263 u264 u265 u266 u267 u268 u269 u270 u271 u272 u273 u274 u275 u276 u277 u278 u279 u280 u281 u282 u283 : Value) (K : Act → World → Prop) (Q : Exit → Act → World → Prop)
    (hK : K ⟨#[.int .u64 M.ep, .int .u64 M.sq, u2, u3, u4, u5, u6, u7, u8, u9, u10, u11, u12, u13, u14, u15, u16, u17, .slice rso n rc, u19, u20, .slice o1 n1 c1, er1, .int .u64 (M.sq + (k1 : Nat)), u24, .slice o2 S c2, er2, .int .u64 (M.sq + (S : Nat)), .int .i64 (fl : Nat), .int .i64 (N : Nat), .int .i64 (S : Nat), u31, u32, u33, .int .i64 (n : Nat), .int .i64 25, u36, u37, u38, u39, u40, u41, u42, u43, u44, u45, u46, u47, u48, u49, u50, u51, u52, u53, u54, u55, u56, u57, u58, u59, u60, u61, u62, u63, u64, u65, u66, u67, u68, u69, u70, u71, u72, u73, u74, u75, u76, u77, u78, u79, u80, u81, u82, u83, u84, u85, u86, u87, u88, u89, u90, u91, u92, u93, u94, u95, u96, u97, u98, u99, u100, u101, u102, u103, u104, u105, u106, u107, u108, u109, u110, u111, u112, u113, u114, u115, u116, u117, u118, u119, u120, u121, u122, u123, u124, u125, u126, u127, u128, u129, u130, u131, u132, u133, u134, u135, u136, u137, u138, u139, u140, u141, u142, u143, u144, u145, u146, u147, u148, u149, u150, u151, u152, u153, u154, u155, u156, u157, u158, u159, u160, u161, u162, u163, u164, u165, u166, u167, u168, u169, u170, u171, u172, u173, u174, u175, u176, u177, u178, u179, u180, u181, u182, u183, u184, u185, u186, u187, u188, u189, u190, u191, u192, u193, u194, u195, u196, u197, u198, u199, u200, u201, u202, u203, u204, u205, u206, u207, u208, u209, u210, u211, u212, u213, u214, u215, u216, u217, u218, u219, u220, u221, u222, u223, u224, u225, u226, u227, u228, u229, u230, u231, u232, u233, u234, u235, u236, u237, u238, u239, u240, u241, u242, u243, u244, u245, u246, u247, u248, u249, u250, u251, u252, u253, u254, u255, u256, u257, u258, u259, u260, u261, u262, u263, u264, u265, u266, u267, u268, u269, u270, u271, u272, u273, u274, u275, u276, u277, u278, u279, u280, u281, u282, u283], []⟩ W) :
    Code.wp Tryd.prog (nthS 22 (Tryd.f4.body.getD .skip)) (Exit.then K Q) ⟨#[.int .u64 M.ep, .int .u64 M.sq, u2, u3, u4, u5, u6, u7, u8, u9, u10, u11, u12, u13, u14, u15, u16, u17, .slice rso n rc, u19, u20, .slice o1 n1 c1, er1, .int .u64 (M.sq + (k1 : Nat)), u24, .slice o2 S c2, er2, .int .u64 (M.sq + (S : Nat)), .int .i64 (fl : Nat), .int .i64 (N : Nat), .int .i64 (S : Nat), u31, u32, u33, .int .i64 (n : Nat), u35, u36, u37, u38, u39, u40, u41, u42, u43, u44, u45, u46, u47, u48, u49, u50, u51, u52, u53, u54, u55, u56, u57, u58, u59, u60, u61, u62, u63, u64, u65, u66, u67, u68, u69, u70, u71, u72, u73, u74, u75, u76, u77, u78, u79, u80, u81, u82, u83, u84, u85, u86, u87, u88, u89, u90, u91, u92, u93, u94, u95, u96, u97, u98, u99, u100, u101, u102, u103, u104, u105, u106, u107, u108, u109, u110, u111, u112, u113, u114, u115, u116, u117, u118, u119, u120, u121, u122, u123, u124, u125, u126, u127, u128, u129, u130, u131, u132, u133, u134, u135, u136, u137, u138, u139, u140, u141, u142, u143, u144, u145, u146, u147, u148, u149, u150, u151, u152, u153, u154, u155, u156, u157, u158, u159, u160, u161, u162, u163, u164, u165, u166, u167, u168, u169, u170, u171, u172, u173, u174, u175, u176, u177, u178, u179, u180, u181, u182, u183, u184, u185, u186, u187, u188, u189, u190, u191, u192, u193, u194, u195, u196, u197, u198, u199, u200, u201, u202, u203, u204, u205, u206, u207, u208, u209, u210, u211, u212, u213, u214, u215, u216, u217, u218, u219, u220, u221, u222, u223, u224, u225, u226, u227, u228, u229, u230, u231, u232, u233, u234, u235, u236, u237, u238, u239, u240, u241, u242, u243, u244, u245, u246, u247, u248, u249, u250, u251, u252, u253, u254, u255, u256, u257, u258, u259, u260, u261, u262, u263, u264, u265, u266, u267, u268, u269, u270, u271, u272, u273, u274, u275, u276, u277, u278, u279, u280, u281, u282, u283], []⟩ W := by
  have H := hide h
  have hsq0 := h.sq0
  have hsq1 := h.sq1
  have hflb := h.flb
  have hNf := need_facts fl
  have hSf := sent_facts fl M.sq
  rw [h.need] at hNf hSf
  rw [h.sent] at hSf
  have hNf' := hide hNf
  have hSf' := hide hSf
  have hSb : M.sq + S ≤ 18446744073709551615 := by omega
  have hNb : N ≤ 1048577 := by omega
  have hSN : S ≤ N := hSf.1
  have hn := h.nb
  clear h hNf hSf
  have HK := hide hK
  clear hK
  conv => arg 2; whnf
  go_wp2
  exact HK.out

set_option maxRecDepth 100000 in
set_option maxHeartbeats 4000000 in
theorem s23 {M : Msg} {ls : List (List Int)} {w W : World} {eT : Nat} {ea : Addr} {rso : Option Addr} {n rc : Nat} {o1 : Option Addr} {n1 c1 k1 : Nat} {er1 : Value} {o2 : Option Addr} {S c2 : Nat} {er2 : Value} {fl N : Nat} (h : Mid M ls w W eT ea rso n rc o1 n1 c1 k1 er1 o2 S c2 er2 fl N) {lst : Nat} (hlst : lst = if fl = 0 then 25 else 26)
    (u2 u3 u4 u5 u6 u7 u8 u9 u10 u11 u12 u13 u14 u15 u16 u17 u19 u20 u24 u31 u32 u33 u36 u37 u38 u39 u40 u41 u42 u43 u44 u45 u46 u47 u48 u49 u50 u51 u52 u53 u54 u55 u56 u57 u58 u59 u60 u61 u62 u63 u64 u65 u66 u67 u68 u69 u70 u71 u72 u73 u74 u75 u76 u77 u78 u79 u80 u81 u82 u83 u84 u85 u86 u87 u88 u89 u90 u91 u92 u93 u94 u95 u96 u97 u98 u99 u100 u101 u102 u103 u104 u105 u106 u107 u108 u109 u110 u111 u112 u113 u114 u115 u116 u117 u118 u119 u120 u121 u122 u123 u124 u125 u126 u127 u128 u129 u130 u131 u132 u133 u134 u135 u136 u137 u138 u139 u140 u141 u142 u143 u144 u145 u146 u147 u148 u149 u150 u151 u152 u153 u154 u155 u156 u157 u158 u159 u160 u161 u162 u163 u164 u165 u166 u167 u168 u169 u170 u171 u172 u173 u174 u175 u176 u177 u178 u179 u180 u181 u182 u183 u184 u185 u186 u187 u188 u189 u190 u191 u192 u193 u194 u195 u196 u197 u198 u199 u200 u201 u202 u203 u204 u205 u206 u207 u208 u209 u210 u211 u212 u213 u214 u215 u216 u217 u218 u219 u220 u221 u222 u223 u224 u225 u226 u227 u228 u229 u230 u231 u232 u233 u234 u235 u236 u237 u238 u239 u240 u241 u242 u243 u244 u245 u246 u247 u248 u249 u250 u251 u252 u253 u254 u255 u256 u257 u258 u259 u260 u261 u262 u263 u264 u265 u266 u267 u268 u269 u270 u271 u272 u273 u274 u275 u276 u277 u278 u279 u280 u281 u282 u283 : Value) (K : Act → World → Prop) (Q : Exit → Act → World → Prop)
    (hK : ∀ (v167 v168 : Value), K ⟨#[.int .u64 M.ep, .int .u64 M.sq, u2, u3, u4, u5, u6, u7, u8, u9, u10, u11, u12, u13, u14, u15, u16, u17, .slice rso n rc, u19, u20, .slice o1 n1 c1, er1, .int .u64 (M.sq + (k1 : Nat)), u24, .slice o2 S c2, er2, .int .u64 (M.sq + (S : Nat)), .int .i64 (fl : Nat), .int .i64 (N : Nat), .int .i64 (S : Nat), u31, u32, u33, .int .i64 (n : Nat), .int .i64 (lst : Nat), u36, u37, u38, u39, u40, u41, u42, u43, u44, u45, u46, u47, u48, u49, u50, u51, u52, u53, u54, u55, u56, u57, u58, u59, u60, u61, u62, u63, u64, u65, u66, u67, u68, u69, u70, u71, u72, u73, u74, u75, u76, u77, u78, u79, u80, u81, u82, u83, u84, u85, u86, u87, u88, u89, u90, u91, u92, u93, u94, u95, u96, u97, u98, u99, u100, u101, u102, u103, u104, u105, u106, u107, u108, u109, u110, u111, u112, u113, u114, u115, u116, u117, u118, u119, u120, u121, u122, u123, u124, u125, u126, u127, u128, u129, u130, u131, u132, u133, u134, u135, u136, u137, u138, u139, u140, u141, u142, u143, u144, u145, u146, u147, u148, u149, u150, u151, u152, u153, u154, u155, u156, u157, u158, u159, u160, u161, u162, u163, u164, u165, u166, v167, v168, u169, u170, u171, u172, u173, u174, u175, u176, u177, u178, u179, u180, u181, u182, u183, u184, u185, u186, u187, u188, u189, u190, u191, u192, u193, u194, u195, u196, u197, u198, u199, u200, u201, u202, u203, u204, u205, u206, u207, u208, u209, u210, u211, u212, u213, u214, u215, u216, u217, u218, u219, u220, u221, u222, u223, u224, u225, u226, u227, u228, u229, u230, u231, u232, u233, u234, u235, u236, u237, u238, u239, u240, u241, u242, u243, u244, u245, u246, u247, u248, u249, u250, u251, u252, u253, u254, u255, u256, u257, u258, u259, u260, u261, u262, u263, u264, u265, u266, u267, u268, u269, u270, u271, u272, u273, u274, u275, u276, u277, u278, u279, u280, u281, u282, u283], []⟩ W) :
    Code.wp Tryd.prog (nthS 23 (Tryd.f4.body.getD .skip)) (Exit.then K Q) ⟨#[.int .u64 M.ep, .int .u64 M.sq, u2, u3, u4, u5, u6, u7, u8, u9, u10, u11, u12, u13, u14, u15, u16, u17, .slice rso n rc, u19, u20, .slice o1 n1 c1, er1, .int .u64 (M.sq + (k1 : Nat)), u24, .slice o2 S c2, er2, .int .u64 (M.sq + (S : Nat)), .int .i64 (fl : Nat), .int .i64 (N : Nat), .int .i64 (S : Nat), u31, u32, u33, .int .i64 (n : Nat), .int .i64 25, u36, u37, u38, u39, u40, u41, u42, u43, u44, u45, u46, u47, u48, u49, u50, u51, u52, u53, u54, u55, u56, u57, u58, u59, u60, u61, u62, u63, u64, u65, u66, u67, u68, u69, u70, u71, u72, u73, u74, u75, u76, u77, u78, u79, u80, u81, u82, u83, u84, u85, u86, u87, u88, u89, u90, u91, u92, u93, u94, u95, u96, u97, u98, u99, u100, u101, u102, u103, u104, u105, u106, u107, u108, u109, u110, u111, u112, u113, u114, u115, u116, u117, u118, u119, u120, u121, u122, u123, u124, u125, u126, u127, u128, u129, u130, u131, u132, u133, u134, u135, u136, u137, u138, u139, u140, u141, u142, u143, u144, u145, u146, u147, u148, u149, u150, u151, u152, u153, u154, u155, u156, u157, u158, u159, u160, u161, u162, u163, u164, u165, u166, u167, u168, u169, u170, u171, u172, u173, u174, u175, u176, u177, u178, u179, u180, u181, u182, u183, u184, u185, u186, u187, u188, u189, u190, u191, u192, u193, u194, u195, u196, u197, u198, u199, u200, u201, u202, u203, u204, u205, u206, u207, u208, u209, u210, u211, u212, u213, u214, u215, u216, u217, u218, u219, u220, u221, u222, u223, u224, u225, u226, u227, u228, u229, u230, u231, u232, u233, u234, u235, u236, u237, u238, u239, u240, u241, u242, u243, u244, u245, u246, u247, u248, u249, u250, u251, u252, u253, u254, u255, u256, u257, u258, u259, u260, u261, u262, u263, u264, u265, u266, u267, u268, u269, u270, u271, u272, u273, u274, u275, u276, u277, u278, u279, u280, u281, u282, u283], []⟩ W := by
  have H := hide h
  have hsq0 := h.sq0
  have hsq1 := h.sq1
  have hflb := h.flb
  have hNf := need_facts fl
  have hSf := sent_facts fl M.sq
  rw [h.need] at hNf hSf
  rw [h.sent] at hSf
  have hNf' := hide hNf
  have hSf' := hide hSf
  have hSb : M.sq + S ≤ 18446744073709551615 := by omega
  have hNb : N ≤ 1048577 := by omega
  have hSN : S ≤ N := hSf.1
  have hn := h.nb
  clear h hNf hSf
  have HK := hide hK
  clear hK
  conv => arg 2; whnf
  have hlst' := hide hlst
  clear hlst
  by_cases h0 : fl = 0
  · have hl : Hid ((25 : Int) = lst) := by show (25 : Int) = lst; rw [hlst'.out, if_pos h0]; rfl
    have hz : (fl : Int) ≤ 0 := by omega
    clear h0
    go_wp2
    rw [hl.out]
    exact HK.out _ _
  · have hl : Hid ((26 : Int) = lst) := by show (26 : Int) = lst; rw [hlst'.out, if_neg h0]; rfl
    have hz : (0 : Int) < fl := by omega
    clear h0
    go_wp2
    rw [hl.out]
    exact HK.out _ _

end Go.Proofs.Qxb6614518aDoor
