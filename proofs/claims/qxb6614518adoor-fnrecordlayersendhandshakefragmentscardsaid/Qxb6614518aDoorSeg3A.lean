/-
  OURS. FnRecordLayerSendHandshakeFragments (f3): its statements behind the calls.
-/
import Derived.Test.Qxb6614518aDoorShape
import Derived.Test.Qxb6614518aDoorRow
import Derived.Test.Qxb6614518aDoorSegB
namespace Go.Proofs.Qxb6614518aDoor
open Go Go.RowKit
set_option linter.unusedVariables false

/-- What is known behind the calls of f3. -/
structure Mid3 (M : Msg) (ls out : List (List Int)) (w W : World) (eT : Nat) (ea : Addr) (rso : Option Addr) (n rc : Nat) (o1 : Option Addr) (c1 k : Nat) (er : Value) (fso : Option Addr) (fl r0 c0 m : Nat) (inl : Bool) : Prop where
  ok : M.ok
  hfl : M.body.length = fl
  flb : fl ≤ 1048576
  sq1 : M.sq ≤ 18446744073709551615
  sqk : M.sq + k ≤ 18446744073709551615
  nb : n ≤ 65536
  kb : k ≤ fl + 2
  rr : RowsAt W rso n rc ls
  r1 : RowsAt W o1 (n + m) c1 out
  own : ∀ i l, out[i]? = some l → l ≠ [] → ∃ b o g d, o1 = some ⟨b, o, none⟩ ∧ W.cell? ⟨b, o + i, none⟩ = some (.slice (some ⟨g, 0, none⟩) l.length d) ∧ Src W (some ⟨g, 0, none⟩) l.length d l ∧ l.length ≤ d
  sh : Sh M ls out k r0 c0 m inl
  fin0 : Fin3 M k c0 m er .nilIface (.iface eT (.pointer (some ea)))
  frag : Src W fso fl fl M.body
  head : 0 < fl → ∃ fb, fso = some ⟨fb, 0, none⟩
  fin : ∀ q, Holds w (.returned (.bool true)) (W.drewN q)

theorem Mid3.drewN {M : Msg} {ls out : List (List Int)} {w W : World} {eT : Nat} {ea : Addr} {rso : Option Addr} {n rc : Nat} {o1 : Option Addr} {c1 k : Nat} {er : Value} {fso : Option Addr} {fl r0 c0 m : Nat} {inl : Bool} (h : Mid3 M ls out w W eT ea rso n rc o1 c1 k er fso fl r0 c0 m inl) (q : Nat) : Mid3 M ls out w (W.drewN q) eT ea rso n rc o1 c1 k er fso fl r0 c0 m inl :=
  ⟨h.ok, h.hfl, h.flb, h.sq1, h.sqk, h.nb, h.kb, h.rr.kp ((Kp.refl _ W).drewN q), h.r1.kp ((Kp.refl _ W).drewN q), fun i l e hl => by
    obtain ⟨b, o, g, d, e1, e2, e3, e4⟩ := h.own i l e hl
    exact ⟨b, o, g, d, e1, e2, src_drewN e3 q, e4⟩, h.sh, h.fin0, src_drewN h.frag q, h.head, fun q' => by rw [World.drewN_drewN]; exact h.fin _⟩

set_option maxRecDepth 100000 in
set_option maxHeartbeats 4000000 in
theorem z11 {M : Msg} {ls out : List (List Int)} {w W : World} {eT : Nat} {ea : Addr} {rso : Option Addr} {n rc : Nat} {o1 : Option Addr} {c1 k : Nat} {er : Value} {fso : Option Addr} {fl r0 c0 m : Nat} {inl : Bool} (h : Mid3 M ls out w W eT ea rso n rc o1 c1 k er fso fl r0 c0 m inl)
    (u2 u6 u8 u9 u10 u11 u12 u13 u14 u15 u16 u17 u19 u20 u25 u26 u27 u28 u29 u30 u31 u32 u33 u34 u35 u36 u37 u38 u39 u40 u41 u42 u43 u44 u45 u46 u47 u48 u49 u50 u51 u52 u53 u54 u55 u56 u57 u58 u59 u60 u61 u62 u63 u64 u65 u66 u67 u68 u69 u70 u71 u72 u73 u74 u75 u76 u77 u78 u79 u80 u81 u82 u83 u84 u85 u86 u87 u88 u89 u90 u91 u92 u93 u94 u95 u96 u97 u98 u99 u100 u101 u102 u103 u104 u105 u106 u107 u108 u109 u110 u111 u112 u113 u114 u115 u116 u117 u118 u119 u120 u121 u122 u123 u124 u125 u126 u127 u128 u129 u130 u131 u132 u133 u134 u135 u136 u137 u138 u139 u140 u141 u142 u143 u144 u145 u146 u147 u148 u149 u150 u151 u152 u153 u154 u155 u156 u157 u158 u159 u160 u161 u162 u163 u164 u165 u166 u167 u168 u169 u170 u171 u172 u173 u174 u175 u176 u177 u178 u179 u180 u181 u182 u183 u184 u185 u186 u187 u188 u189 u190 u191 u192 u193 u194 u195 u196 u197 u198 u199 u200 u201 u202 u203 u204 u205 u206 u207 u208 u209 u210 u211 u212 u213 u214 u215 u216 u217 u218 u219 u220 u221 u222 u223 u224 u225 u226 u227 u228 u229 u230 u231 u232 u233 u234 u235 u236 u237 u238 u239 u240 u241 u242 u243 u244 u245 u246 u247 u248 u249 u250 u251 u252 u253 u254 u255 u256 u257 u258 u259 u260 : Value) (K : Act → World → Prop) (Q : Exit → Act → World → Prop)
    (hK : ∀ (v92 v93 : Value), K ⟨#[.int .u64 M.ep, .int .u64 M.sq, u2, .int .u8 M.ty, .int .u32 M.ln, .int .u16 M.ms, u6, .slice fso fl fl, u8, u9, u10, u11, u12, u13, u14, u15, u16, u17, .slice rso n rc, u19, u20, .slice o1 (n + m) c1, er, .int .u64 (M.sq + (k : Nat)), .int .i64 (n : Nat), .int .i64 (fl : Nat), u26, u27, u28, u29, u30, u31, u32, u33, u34, u35, u36, u37, u38, u39, u40, u41, u42, u43, u44, u45, u46, u47, u48, u49, u50, u51, u52, u53, u54, u55, u56, u57, u58, u59, u60, u61, u62, u63, u64, u65, u66, u67, u68, u69, u70, u71, u72, u73, u74, u75, u76, u77, u78, u79, u80, u81, u82, u83, u84, u85, u86, u87, u88, u89, u90, u91, v92, v93, u94, u95, u96, u97, u98, u99, u100, u101, u102, u103, u104, u105, u106, u107, u108, u109, u110, u111, u112, u113, u114, u115, u116, u117, u118, u119, u120, u121, u122, u123, u124, u125, u126, u127, u128, u129, u130, u131, u132, u133, u134, u135, u136, u137, u138, u139, u140, u141, u142, u143, u144, u145, u146, u147, u148, u149, u150, u151, u152, u153, u154, u155, u156, u157, u158, u159, u160, u161, u162, u163, u164, u165, u166, u167, u168, u169, u170, u171, u172, u173, u174, u175, u176, u177, u178, u179, u180, u181, u182, u183, u184, u185, u186, u187, u188, u189, u190, u191, u192, u193, u194, u195, u196, u197, u198, u199, u200, u201, u202, u203, u204, u205, u206, u207, u208, u209, u210, u211, u212, u213, u214, u215, u216, u217, u218, u219, u220, u221, u222, u223, u224, u225, u226, u227, u228, u229, u230, u231, u232, u233, u234, u235, u236, u237, u238, u239, u240, u241, u242, u243, u244, u245, u246, u247, u248, u249, u250, u251, u252, u253, u254, u255, u256, u257, u258, u259, u260], []⟩ W) :
    Code.wp Tryd.prog (nthS 11 (Tryd.f3.body.getD .skip)) (Exit.then K Q) ⟨#[.int .u64 M.ep, .int .u64 M.sq, u2, .int .u8 M.ty, .int .u32 M.ln, .int .u16 M.ms, u6, .slice fso fl fl, u8, u9, u10, u11, u12, u13, u14, u15, u16, u17, .slice rso n rc, u19, u20, .slice o1 (n + m) c1, er, .int .u64 (M.sq + (k : Nat)), .int .i64 (n : Nat), u25, u26, u27, u28, u29, u30, u31, u32, u33, u34, u35, u36, u37, u38, u39, u40, u41, u42, u43, u44, u45, u46, u47, u48, u49, u50, u51, u52, u53, u54, u55, u56, u57, u58, u59, u60, u61, u62, u63, u64, u65, u66, u67, u68, u69, u70, u71, u72, u73, u74, u75, u76, u77, u78, u79, u80, u81, u82, u83, u84, u85, u86, u87, u88, u89, u90, u91, u92, u93, u94, u95, u96, u97, u98, u99, u100, u101, u102, u103, u104, u105, u106, u107, u108, u109, u110, u111, u112, u113, u114, u115, u116, u117, u118, u119, u120, u121, u122, u123, u124, u125, u126, u127, u128, u129, u130, u131, u132, u133, u134, u135, u136, u137, u138, u139, u140, u141, u142, u143, u144, u145, u146, u147, u148, u149, u150, u151, u152, u153, u154, u155, u156, u157, u158, u159, u160, u161, u162, u163, u164, u165, u166, u167, u168, u169, u170, u171, u172, u173, u174, u175, u176, u177, u178, u179, u180, u181, u182, u183, u184, u185, u186, u187, u188, u189, u190, u191, u192, u193, u194, u195, u196, u197, u198, u199, u200, u201, u202, u203, u204, u205, u206, u207, u208, u209, u210, u211, u212, u213, u214, u215, u216, u217, u218, u219, u220, u221, u222, u223, u224, u225, u226, u227, u228, u229, u230, u231, u232, u233, u234, u235, u236, u237, u238, u239, u240, u241, u242, u243, u244, u245, u246, u247, u248, u249, u250, u251, u252, u253, u254, u255, u256, u257, u258, u259, u260], []⟩ W := by
  have H := hide h
  have hok := h.ok
  have hsq0 := hok.hs0
  have hsq1 := h.sq1
  have hsqk := h.sqk
  have hflb := h.flb
  have hkb := h.kb
  have hmk := h.sh.hk
  have hn := h.nb
  have hlen := h.rr.len
  have hmb : m ≤ 1048578 := by omega
  clear h
  have HK := hide hK
  clear hK
  conv => arg 2; whnf
  go_wp2
  exact HK.out _ _

set_option maxRecDepth 100000 in
set_option maxHeartbeats 4000000 in
theorem z12 {M : Msg} {ls out : List (List Int)} {w W : World} {eT : Nat} {ea : Addr} {rso : Option Addr} {n rc : Nat} {o1 : Option Addr} {c1 k : Nat} {er : Value} {fso : Option Addr} {fl r0 c0 m : Nat} {inl : Bool} (h : Mid3 M ls out w W eT ea rso n rc o1 c1 k er fso fl r0 c0 m inl)
    (u2 u6 u8 u9 u10 u11 u12 u13 u14 u15 u16 u17 u19 u20 u26 u27 u28 u29 u30 u31 u32 u33 u34 u35 u36 u37 u38 u39 u40 u41 u42 u43 u44 u45 u46 u47 u48 u49 u50 u51 u52 u53 u54 u55 u56 u57 u58 u59 u60 u61 u62 u63 u64 u65 u66 u67 u68 u69 u70 u71 u72 u73 u74 u75 u76 u77 u78 u79 u80 u81 u82 u83 u84 u85 u86 u87 u88 u89 u90 u91 u92 u93 u94 u95 u96 u97 u98 u99 u100 u101 u102 u103 u104 u105 u106 u107 u108 u109 u110 u111 u112 u113 u114 u115 u116 u117 u118 u119 u120 u121 u122 u123 u124 u125 u126 u127 u128 u129 u130 u131 u132 u133 u134 u135 u136 u137 u138 u139 u140 u141 u142 u143 u144 u145 u146 u147 u148 u149 u150 u151 u152 u153 u154 u155 u156 u157 u158 u159 u160 u161 u162 u163 u164 u165 u166 u167 u168 u169 u170 u171 u172 u173 u174 u175 u176 u177 u178 u179 u180 u181 u182 u183 u184 u185 u186 u187 u188 u189 u190 u191 u192 u193 u194 u195 u196 u197 u198 u199 u200 u201 u202 u203 u204 u205 u206 u207 u208 u209 u210 u211 u212 u213 u214 u215 u216 u217 u218 u219 u220 u221 u222 u223 u224 u225 u226 u227 u228 u229 u230 u231 u232 u233 u234 u235 u236 u237 u238 u239 u240 u241 u242 u243 u244 u245 u246 u247 u248 u249 u250 u251 u252 u253 u254 u255 u256 u257 u258 u259 u260 : Value) (K : Act → World → Prop) (Q : Exit → Act → World → Prop)
    (hK : ∀ (v94 v95 v96 v97 : Value), K ⟨#[.int .u64 M.ep, .int .u64 M.sq, u2, .int .u8 M.ty, .int .u32 M.ln, .int .u16 M.ms, u6, .slice fso fl fl, u8, u9, u10, u11, u12, u13, u14, u15, u16, u17, .slice rso n rc, u19, u20, .slice o1 (n + m) c1, er, .int .u64 (M.sq + (k : Nat)), .int .i64 (n : Nat), .int .i64 (fl : Nat), u26, u27, u28, u29, u30, u31, u32, u33, u34, u35, u36, u37, u38, u39, u40, u41, u42, u43, u44, u45, u46, u47, u48, u49, u50, u51, u52, u53, u54, u55, u56, u57, u58, u59, u60, u61, u62, u63, u64, u65, u66, u67, u68, u69, u70, u71, u72, u73, u74, u75, u76, u77, u78, u79, u80, u81, u82, u83, u84, u85, u86, u87, u88, u89, u90, u91, u92, u93, v94, v95, v96, v97, u98, u99, u100, u101, u102, u103, u104, u105, u106, u107, u108, u109, u110, u111, u112, u113, u114, u115, u116, u117, u118, u119, u120, u121, u122, u123, u124, u125, u126, u127, u128, u129, u130, u131, u132, u133, u134, u135, u136, u137, u138, u139, u140, u141, u142, u143, u144, u145, u146, u147, u148, u149, u150, u151, u152, u153, u154, u155, u156, u157, u158, u159, u160, u161, u162, u163, u164, u165, u166, u167, u168, u169, u170, u171, u172, u173, u174, u175, u176, u177, u178, u179, u180, u181, u182, u183, u184, u185, u186, u187, u188, u189, u190, u191, u192, u193, u194, u195, u196, u197, u198, u199, u200, u201, u202, u203, u204, u205, u206, u207, u208, u209, u210, u211, u212, u213, u214, u215, u216, u217, u218, u219, u220, u221, u222, u223, u224, u225, u226, u227, u228, u229, u230, u231, u232, u233, u234, u235, u236, u237, u238, u239, u240, u241, u242, u243, u244, u245, u246, u247, u248, u249, u250, u251, u252, u253, u254, u255, u256, u257, u258, u259, u260], []⟩ W) :
    Code.wp Tryd.prog (nthS 12 (Tryd.f3.body.getD .skip)) (Exit.then K Q) ⟨#[.int .u64 M.ep, .int .u64 M.sq, u2, .int .u8 M.ty, .int .u32 M.ln, .int .u16 M.ms, u6, .slice fso fl fl, u8, u9, u10, u11, u12, u13, u14, u15, u16, u17, .slice rso n rc, u19, u20, .slice o1 (n + m) c1, er, .int .u64 (M.sq + (k : Nat)), .int .i64 (n : Nat), .int .i64 (fl : Nat), u26, u27, u28, u29, u30, u31, u32, u33, u34, u35, u36, u37, u38, u39, u40, u41, u42, u43, u44, u45, u46, u47, u48, u49, u50, u51, u52, u53, u54, u55, u56, u57, u58, u59, u60, u61, u62, u63, u64, u65, u66, u67, u68, u69, u70, u71, u72, u73, u74, u75, u76, u77, u78, u79, u80, u81, u82, u83, u84, u85, u86, u87, u88, u89, u90, u91, u92, u93, u94, u95, u96, u97, u98, u99, u100, u101, u102, u103, u104, u105, u106, u107, u108, u109, u110, u111, u112, u113, u114, u115, u116, u117, u118, u119, u120, u121, u122, u123, u124, u125, u126, u127, u128, u129, u130, u131, u132, u133, u134, u135, u136, u137, u138, u139, u140, u141, u142, u143, u144, u145, u146, u147, u148, u149, u150, u151, u152, u153, u154, u155, u156, u157, u158, u159, u160, u161, u162, u163, u164, u165, u166, u167, u168, u169, u170, u171, u172, u173, u174, u175, u176, u177, u178, u179, u180, u181, u182, u183, u184, u185, u186, u187, u188, u189, u190, u191, u192, u193, u194, u195, u196, u197, u198, u199, u200, u201, u202, u203, u204, u205, u206, u207, u208, u209, u210, u211, u212, u213, u214, u215, u216, u217, u218, u219, u220, u221, u222, u223, u224, u225, u226, u227, u228, u229, u230, u231, u232, u233, u234, u235, u236, u237, u238, u239, u240, u241, u242, u243, u244, u245, u246, u247, u248, u249, u250, u251, u252, u253, u254, u255, u256, u257, u258, u259, u260], []⟩ W := by
  have H := hide h
  have hok := h.ok
  have hsq0 := hok.hs0
  have hsq1 := h.sq1
  have hsqk := h.sqk
  have hflb := h.flb
  have hkb := h.kb
  have hmk := h.sh.hk
  have hn := h.nb
  have hlen := h.rr.len
  have hmb : m ≤ 1048578 := by omega
  clear h
  have HK := hide hK
  clear hK
  conv => arg 2; whnf
  have g : (n : Int) ≤ n + m := by omega
  go_wp2
  exact HK.out _ _ _ _

set_option maxRecDepth 100000 in
set_option maxHeartbeats 4000000 in
theorem z13 {M : Msg} {ls out : List (List Int)} {w W : World} {eT : Nat} {ea : Addr} {rso : Option Addr} {n rc : Nat} {o1 : Option Addr} {c1 k : Nat} {er : Value} {fso : Option Addr} {fl r0 c0 m : Nat} {inl : Bool} (h : Mid3 M ls out w W eT ea rso n rc o1 c1 k er fso fl r0 c0 m inl)
    (u2 u6 u8 u9 u10 u11 u12 u13 u14 u15 u16 u17 u19 u20 u26 u27 u28 u29 u30 u31 u32 u33 u34 u35 u36 u37 u38 u39 u40 u41 u42 u43 u44 u45 u46 u47 u48 u49 u50 u51 u52 u53 u54 u55 u56 u57 u58 u59 u60 u61 u62 u63 u64 u65 u66 u67 u68 u69 u70 u71 u72 u73 u74 u75 u76 u77 u78 u79 u80 u81 u82 u83 u84 u85 u86 u87 u88 u89 u90 u91 u92 u93 u94 u95 u96 u97 u98 u99 u100 u101 u102 u103 u104 u105 u106 u107 u108 u109 u110 u111 u112 u113 u114 u115 u116 u117 u118 u119 u120 u121 u122 u123 u124 u125 u126 u127 u128 u129 u130 u131 u132 u133 u134 u135 u136 u137 u138 u139 u140 u141 u142 u143 u144 u145 u146 u147 u148 u149 u150 u151 u152 u153 u154 u155 u156 u157 u158 u159 u160 u161 u162 u163 u164 u165 u166 u167 u168 u169 u170 u171 u172 u173 u174 u175 u176 u177 u178 u179 u180 u181 u182 u183 u184 u185 u186 u187 u188 u189 u190 u191 u192 u193 u194 u195 u196 u197 u198 u199 u200 u201 u202 u203 u204 u205 u206 u207 u208 u209 u210 u211 u212 u213 u214 u215 u216 u217 u218 u219 u220 u221 u222 u223 u224 u225 u226 u227 u228 u229 u230 u231 u232 u233 u234 u235 u236 u237 u238 u239 u240 u241 u242 u243 u244 u245 u246 u247 u248 u249 u250 u251 u252 u253 u254 u255 u256 u257 u258 u259 u260 : Value) (K : Act → World → Prop) (Q : Exit → Act → World → Prop)
    (hK : ∀ (qq : Nat) (v16 v26 v98 v99 v100 v101 v102 v103 v104 v105 v106 v107 v108 v109 v110 v111 v112 v113 : Value), K ⟨#[.int .u64 M.ep, .int .u64 M.sq, u2, .int .u8 M.ty, .int .u32 M.ln, .int .u16 M.ms, u6, .slice fso fl fl, u8, u9, u10, u11, u12, u13, u14, u15, v16, u17, .slice rso n rc, u19, u20, .slice o1 (n + m) c1, er, .int .u64 (M.sq + (k : Nat)), .int .i64 (n : Nat), .int .i64 (fl : Nat), v26, u27, u28, u29, u30, u31, u32, u33, u34, u35, u36, u37, u38, u39, u40, u41, u42, u43, u44, u45, u46, u47, u48, u49, u50, u51, u52, u53, u54, u55, u56, u57, u58, u59, u60, u61, u62, u63, u64, u65, u66, u67, u68, u69, u70, u71, u72, u73, u74, u75, u76, u77, u78, u79, u80, u81, u82, u83, u84, u85, u86, u87, u88, u89, u90, u91, u92, u93, u94, u95, u96, u97, v98, v99, v100, v101, v102, v103, v104, v105, v106, v107, v108, v109, v110, v111, v112, v113, u114, u115, u116, u117, u118, u119, u120, u121, u122, u123, u124, u125, u126, u127, u128, u129, u130, u131, u132, u133, u134, u135, u136, u137, u138, u139, u140, u141, u142, u143, u144, u145, u146, u147, u148, u149, u150, u151, u152, u153, u154, u155, u156, u157, u158, u159, u160, u161, u162, u163, u164, u165, u166, u167, u168, u169, u170, u171, u172, u173, u174, u175, u176, u177, u178, u179, u180, u181, u182, u183, u184, u185, u186, u187, u188, u189, u190, u191, u192, u193, u194, u195, u196, u197, u198, u199, u200, u201, u202, u203, u204, u205, u206, u207, u208, u209, u210, u211, u212, u213, u214, u215, u216, u217, u218, u219, u220, u221, u222, u223, u224, u225, u226, u227, u228, u229, u230, u231, u232, u233, u234, u235, u236, u237, u238, u239, u240, u241, u242, u243, u244, u245, u246, u247, u248, u249, u250, u251, u252, u253, u254, u255, u256, u257, u258, u259, u260], []⟩ (W.drewN qq)) :
    Code.wp Tryd.prog (nthS 13 (Tryd.f3.body.getD .skip)) (Exit.then K Q) ⟨#[.int .u64 M.ep, .int .u64 M.sq, u2, .int .u8 M.ty, .int .u32 M.ln, .int .u16 M.ms, u6, .slice fso fl fl, u8, u9, u10, u11, u12, u13, u14, u15, u16, u17, .slice rso n rc, u19, u20, .slice o1 (n + m) c1, er, .int .u64 (M.sq + (k : Nat)), .int .i64 (n : Nat), .int .i64 (fl : Nat), u26, u27, u28, u29, u30, u31, u32, u33, u34, u35, u36, u37, u38, u39, u40, u41, u42, u43, u44, u45, u46, u47, u48, u49, u50, u51, u52, u53, u54, u55, u56, u57, u58, u59, u60, u61, u62, u63, u64, u65, u66, u67, u68, u69, u70, u71, u72, u73, u74, u75, u76, u77, u78, u79, u80, u81, u82, u83, u84, u85, u86, u87, u88, u89, u90, u91, u92, u93, u94, u95, u96, u97, u98, u99, u100, u101, u102, u103, u104, u105, u106, u107, u108, u109, u110, u111, u112, u113, u114, u115, u116, u117, u118, u119, u120, u121, u122, u123, u124, u125, u126, u127, u128, u129, u130, u131, u132, u133, u134, u135, u136, u137, u138, u139, u140, u141, u142, u143, u144, u145, u146, u147, u148, u149, u150, u151, u152, u153, u154, u155, u156, u157, u158, u159, u160, u161, u162, u163, u164, u165, u166, u167, u168, u169, u170, u171, u172, u173, u174, u175, u176, u177, u178, u179, u180, u181, u182, u183, u184, u185, u186, u187, u188, u189, u190, u191, u192, u193, u194, u195, u196, u197, u198, u199, u200, u201, u202, u203, u204, u205, u206, u207, u208, u209, u210, u211, u212, u213, u214, u215, u216, u217, u218, u219, u220, u221, u222, u223, u224, u225, u226, u227, u228, u229, u230, u231, u232, u233, u234, u235, u236, u237, u238, u239, u240, u241, u242, u243, u244, u245, u246, u247, u248, u249, u250, u251, u252, u253, u254, u255, u256, u257, u258, u259, u260], []⟩ W := by
  have H := hide h
  have hok := h.ok
  have hsq0 := hok.hs0
  have hsq1 := h.sq1
  have hsqk := h.sqk
  have hflb := h.flb
  have hkb := h.kb
  have hmk := h.sh.hk
  have hn := h.nb
  have hlen := h.rr.len
  have hmb : m ≤ 1048578 := by omega
  clear h
  have HK := hide hK
  clear hK
  conv => arg 2; whnf
  have E1 := hide (show ∀ i, i + 1 < n → ∃ b o b' o' a1 d1 a2 d2 x, o1 = some ⟨b, o, none⟩ ∧ rso = some ⟨b', o', none⟩ ∧ W.cell? ⟨b, o + i, none⟩ = some (.slice a1 x d1) ∧ W.cell? ⟨b', o' + i, none⟩ = some (.slice a2 x d2) ∧ x ≤ 140737488355328 ∧ Hid (∃ xs, Src W a1 x d1 xs ∧ Src W a2 x d2 xs) from fun i hi => by
    obtain ⟨l, e1, e2⟩ := H.out.sh.ini i (by omega)
    exact pair_rows H.out.r1 H.out.rr e1 e2)
  clear hlen hmk hkb hsqk hsq1 hsq0 hok
  go_wp2_with fail
  go_loopw [26] (fun i wr => ∃ x q : Nat, x ≤ n ∧ i = .int .i64 x ∧ Hid (wr = W.drewN q)) (fun i _ => n - (intOf i).toNat)
  case atStart => exact ⟨0, 0, Nat.zero_le _, rfl, rfl⟩
  case round =>
    obtain ⟨x, q, hx, rfl, hw⟩ := hrel
    by_cases hlt : x + 1 < n
    · obtain ⟨b, o, b', o', a1, d1, a2, d2, y, rfl, rfl, e1, e2, hm, HS⟩ := E1.out x hlt
      replace e1 : wr.cell? ⟨b, o + x, none⟩ = some (.slice a1 y d1) := by rw [hw.out]; exact e1
      replace e2 : wr.cell? ⟨b', o' + x, none⟩ = some (.slice a2 y d2) := by rw [hw.out]; exact e2
      have g1 : (x : Int) + 1 < (n : Int) := by omega
      have g2 : (x : Int) < (n : Int) + m := by omega
      have g3 : (x : Int) < (n : Int) := by omega
      go_wp2_with fail
      go_quiet ((go_at_call 11; exact Calls.quiet_of (eq_pair hw.out HS hm _)))
      go_wp2
      go_roundw
      case rel => exact ⟨x + 1, _, by omega, by go_num, by rw [hw.out, World.drewN_drewN]; rfl⟩
      case measure => simp [intOf]; omega
    · have g1 : (n : Int) ≤ (x : Int) + 1 := by omega
      have hw' := hw.out
      subst hw'
      go_wp2
      exact HK.out _ _ _ _ _ _ _ _ _ _ _ _ _ _ _ _ _ _ _

set_option maxRecDepth 100000 in
set_option maxHeartbeats 4000000 in
theorem z14 {M : Msg} {ls out : List (List Int)} {w W : World} {eT : Nat} {ea : Addr} {rso : Option Addr} {n rc : Nat} {o1 : Option Addr} {c1 k : Nat} {er : Value} {fso : Option Addr} {fl r0 c0 m : Nat} {inl : Bool} (h : Mid3 M ls out w W eT ea rso n rc o1 c1 k er fso fl r0 c0 m inl)
    (u2 u6 u8 u9 u10 u11 u12 u13 u14 u15 u16 u17 u19 u20 u26 u27 u28 u29 u30 u31 u32 u33 u34 u35 u36 u37 u38 u39 u40 u41 u42 u43 u44 u45 u46 u47 u48 u49 u50 u51 u52 u53 u54 u55 u56 u57 u58 u59 u60 u61 u62 u63 u64 u65 u66 u67 u68 u69 u70 u71 u72 u73 u74 u75 u76 u77 u78 u79 u80 u81 u82 u83 u84 u85 u86 u87 u88 u89 u90 u91 u92 u93 u94 u95 u96 u97 u98 u99 u100 u101 u102 u103 u104 u105 u106 u107 u108 u109 u110 u111 u112 u113 u114 u115 u116 u117 u118 u119 u120 u121 u122 u123 u124 u125 u126 u127 u128 u129 u130 u131 u132 u133 u134 u135 u136 u137 u138 u139 u140 u141 u142 u143 u144 u145 u146 u147 u148 u149 u150 u151 u152 u153 u154 u155 u156 u157 u158 u159 u160 u161 u162 u163 u164 u165 u166 u167 u168 u169 u170 u171 u172 u173 u174 u175 u176 u177 u178 u179 u180 u181 u182 u183 u184 u185 u186 u187 u188 u189 u190 u191 u192 u193 u194 u195 u196 u197 u198 u199 u200 u201 u202 u203 u204 u205 u206 u207 u208 u209 u210 u211 u212 u213 u214 u215 u216 u217 u218 u219 u220 u221 u222 u223 u224 u225 u226 u227 u228 u229 u230 u231 u232 u233 u234 u235 u236 u237 u238 u239 u240 u241 u242 u243 u244 u245 u246 u247 u248 u249 u250 u251 u252 u253 u254 u255 u256 u257 u258 u259 u260 : Value) (K : Act → World → Prop) (Q : Exit → Act → World → Prop)
    (hK : K ⟨#[.int .u64 M.ep, .int .u64 M.sq, u2, .int .u8 M.ty, .int .u32 M.ln, .int .u16 M.ms, u6, .slice fso fl fl, u8, u9, u10, u11, u12, u13, u14, u15, u16, u17, .slice rso n rc, u19, u20, .slice o1 (n + m) c1, er, .int .u64 (M.sq + (k : Nat)), .int .i64 (n : Nat), .int .i64 (fl : Nat), u26, .bool false, u28, u29, u30, u31, u32, u33, u34, u35, u36, u37, u38, u39, u40, u41, u42, u43, u44, u45, u46, u47, u48, u49, u50, u51, u52, u53, u54, u55, u56, u57, u58, u59, u60, u61, u62, u63, u64, u65, u66, u67, u68, u69, u70, u71, u72, u73, u74, u75, u76, u77, u78, u79, u80, u81, u82, u83, u84, u85, u86, u87, u88, u89, u90, u91, u92, u93, u94, u95, u96, u97, u98, u99, u100, u101, u102, u103, u104, u105, u106, u107, u108, u109, u110, u111, u112, u113, u114, u115, u116, u117, u118, u119, u120, u121, u122, u123, u124, u125, u126, u127, u128, u129, u130, u131, u132, u133, u134, u135, u136, u137, u138, u139, u140, u141, u142, u143, u144, u145, u146, u147, u148, u149, u150, u151, u152, u153, u154, u155, u156, u157, u158, u159, u160, u161, u162, u163, u164, u165, u166, u167, u168, u169, u170, u171, u172, u173, u174, u175, u176, u177, u178, u179, u180, u181, u182, u183, u184, u185, u186, u187, u188, u189, u190, u191, u192, u193, u194, u195, u196, u197, u198, u199, u200, u201, u202, u203, u204, u205, u206, u207, u208, u209, u210, u211, u212, u213, u214, u215, u216, u217, u218, u219, u220, u221, u222, u223, u224, u225, u226, u227, u228, u229, u230, u231, u232, u233, u234, u235, u236, u237, u238, u239, u240, u241, u242, u243, u244, u245, u246, u247, u248, u249, u250, u251, u252, u253, u254, u255, u256, u257, u258, u259, u260], []⟩ W) :
    Code.wp Tryd.prog (nthS 14 (Tryd.f3.body.getD .skip)) (Exit.then K Q) ⟨#[.int .u64 M.ep, .int .u64 M.sq, u2, .int .u8 M.ty, .int .u32 M.ln, .int .u16 M.ms, u6, .slice fso fl fl, u8, u9, u10, u11, u12, u13, u14, u15, u16, u17, .slice rso n rc, u19, u20, .slice o1 (n + m) c1, er, .int .u64 (M.sq + (k : Nat)), .int .i64 (n : Nat), .int .i64 (fl : Nat), u26, u27, u28, u29, u30, u31, u32, u33, u34, u35, u36, u37, u38, u39, u40, u41, u42, u43, u44, u45, u46, u47, u48, u49, u50, u51, u52, u53, u54, u55, u56, u57, u58, u59, u60, u61, u62, u63, u64, u65, u66, u67, u68, u69, u70, u71, u72, u73, u74, u75, u76, u77, u78, u79, u80, u81, u82, u83, u84, u85, u86, u87, u88, u89, u90, u91, u92, u93, u94, u95, u96, u97, u98, u99, u100, u101, u102, u103, u104, u105, u106, u107, u108, u109, u110, u111, u112, u113, u114, u115, u116, u117, u118, u119, u120, u121, u122, u123, u124, u125, u126, u127, u128, u129, u130, u131, u132, u133, u134, u135, u136, u137, u138, u139, u140, u141, u142, u143, u144, u145, u146, u147, u148, u149, u150, u151, u152, u153, u154, u155, u156, u157, u158, u159, u160, u161, u162, u163, u164, u165, u166, u167, u168, u169, u170, u171, u172, u173, u174, u175, u176, u177, u178, u179, u180, u181, u182, u183, u184, u185, u186, u187, u188, u189, u190, u191, u192, u193, u194, u195, u196, u197, u198, u199, u200, u201, u202, u203, u204, u205, u206, u207, u208, u209, u210, u211, u212, u213, u214, u215, u216, u217, u218, u219, u220, u221, u222, u223, u224, u225, u226, u227, u228, u229, u230, u231, u232, u233, u234, u235, u236, u237, u238, u239, u240, u241, u242, u243, u244, u245, u246, u247, u248, u249, u250, u251, u252, u253, u254, u255, u256, u257, u258, u259, u260], []⟩ W := by
  have H := hide h
  have hok := h.ok
  have hsq0 := hok.hs0
  have hsq1 := h.sq1
  have hsqk := h.sqk
  have hflb := h.flb
  have hkb := h.kb
  have hmk := h.sh.hk
  have hn := h.nb
  have hlen := h.rr.len
  have hmb : m ≤ 1048578 := by omega
  clear h
  have HK := hide hK
  clear hK
  conv => arg 2; whnf
  go_wp2
  exact HK.out

set_option maxRecDepth 100000 in
set_option maxHeartbeats 4000000 in
theorem z15 {M : Msg} {ls out : List (List Int)} {w W : World} {eT : Nat} {ea : Addr} {rso : Option Addr} {n rc : Nat} {o1 : Option Addr} {c1 k : Nat} {er : Value} {fso : Option Addr} {fl r0 c0 m : Nat} {inl : Bool} (h : Mid3 M ls out w W eT ea rso n rc o1 c1 k er fso fl r0 c0 m inl)
    (u2 u6 u8 u9 u10 u11 u12 u13 u14 u15 u16 u17 u19 u20 u26 u28 u29 u30 u31 u32 u33 u34 u35 u36 u37 u38 u39 u40 u41 u42 u43 u44 u45 u46 u47 u48 u49 u50 u51 u52 u53 u54 u55 u56 u57 u58 u59 u60 u61 u62 u63 u64 u65 u66 u67 u68 u69 u70 u71 u72 u73 u74 u75 u76 u77 u78 u79 u80 u81 u82 u83 u84 u85 u86 u87 u88 u89 u90 u91 u92 u93 u94 u95 u96 u97 u98 u99 u100 u101 u102 u103 u104 u105 u106 u107 u108 u109 u110 u111 u112 u113 u114 u115 u116 u117 u118 u119 u120 u121 u122 u123 u124 u125 u126 u127 u128 u129 u130 u131 u132 u133 u134 u135 u136 u137 u138 u139 u140 u141 u142 u143 u144 u145 u146 u147 u148 u149 u150 u151 u152 u153 u154 u155 u156 u157 u158 u159 u160 u161 u162 u163 u164 u165 u166 u167 u168 u169 u170 u171 u172 u173 u174 u175 u176 u177 u178 u179 u180 u181 u182 u183 u184 u185 u186 u187 u188 u189 u190 u191 u192 u193 u194 u195 u196 u197 u198 u199 u200 u201 u202 u203 u204 u205 u206 u207 u208 u209 u210 u211 u212 u213 u214 u215 u216 u217 u218 u219 u220 u221 u222 u223 u224 u225 u226 u227 u228 u229 u230 u231 u232 u233 u234 u235 u236 u237 u238 u239 u240 u241 u242 u243 u244 u245 u246 u247 u248 u249 u250 u251 u252 u253 u254 u255 u256 u257 u258 u259 u260 : Value) (K : Act → World → Prop) (Q : Exit → Act → World → Prop)
    (hK : ∀ (v28 v114 v115 v116 v117 v118 v119 v120 v121 v122 v123 v124 v125 v126 : Value), K ⟨#[.int .u64 M.ep, .int .u64 M.sq, u2, .int .u8 M.ty, .int .u32 M.ln, .int .u16 M.ms, u6, .slice fso fl fl, u8, u9, u10, u11, u12, u13, u14, u15, u16, u17, .slice rso n rc, u19, u20, .slice o1 (n + m) c1, er, .int .u64 (M.sq + (k : Nat)), .int .i64 (n : Nat), .int .i64 (fl : Nat), u26, .bool inl, v28, u29, u30, u31, u32, u33, u34, u35, u36, u37, u38, u39, u40, u41, u42, u43, u44, u45, u46, u47, u48, u49, u50, u51, u52, u53, u54, u55, u56, u57, u58, u59, u60, u61, u62, u63, u64, u65, u66, u67, u68, u69, u70, u71, u72, u73, u74, u75, u76, u77, u78, u79, u80, u81, u82, u83, u84, u85, u86, u87, u88, u89, u90, u91, u92, u93, u94, u95, u96, u97, u98, u99, u100, u101, u102, u103, u104, u105, u106, u107, u108, u109, u110, u111, u112, u113, v114, v115, v116, v117, v118, v119, v120, v121, v122, v123, v124, v125, v126, u127, u128, u129, u130, u131, u132, u133, u134, u135, u136, u137, u138, u139, u140, u141, u142, u143, u144, u145, u146, u147, u148, u149, u150, u151, u152, u153, u154, u155, u156, u157, u158, u159, u160, u161, u162, u163, u164, u165, u166, u167, u168, u169, u170, u171, u172, u173, u174, u175, u176, u177, u178, u179, u180, u181, u182, u183, u184, u185, u186, u187, u188, u189, u190, u191, u192, u193, u194, u195, u196, u197, u198, u199, u200, u201, u202, u203, u204, u205, u206, u207, u208, u209, u210, u211, u212, u213, u214, u215, u216, u217, u218, u219, u220, u221, u222, u223, u224, u225, u226, u227, u228, u229, u230, u231, u232, u233, u234, u235, u236, u237, u238, u239, u240, u241, u242, u243, u244, u245, u246, u247, u248, u249, u250, u251, u252, u253, u254, u255, u256, u257, u258, u259, u260], []⟩ W) :
    Code.wp Tryd.prog (nthS 15 (Tryd.f3.body.getD .skip)) (Exit.then K Q) ⟨#[.int .u64 M.ep, .int .u64 M.sq, u2, .int .u8 M.ty, .int .u32 M.ln, .int .u16 M.ms, u6, .slice fso fl fl, u8, u9, u10, u11, u12, u13, u14, u15, u16, u17, .slice rso n rc, u19, u20, .slice o1 (n + m) c1, er, .int .u64 (M.sq + (k : Nat)), .int .i64 (n : Nat), .int .i64 (fl : Nat), u26, .bool false, u28, u29, u30, u31, u32, u33, u34, u35, u36, u37, u38, u39, u40, u41, u42, u43, u44, u45, u46, u47, u48, u49, u50, u51, u52, u53, u54, u55, u56, u57, u58, u59, u60, u61, u62, u63, u64, u65, u66, u67, u68, u69, u70, u71, u72, u73, u74, u75, u76, u77, u78, u79, u80, u81, u82, u83, u84, u85, u86, u87, u88, u89, u90, u91, u92, u93, u94, u95, u96, u97, u98, u99, u100, u101, u102, u103, u104, u105, u106, u107, u108, u109, u110, u111, u112, u113, u114, u115, u116, u117, u118, u119, u120, u121, u122, u123, u124, u125, u126, u127, u128, u129, u130, u131, u132, u133, u134, u135, u136, u137, u138, u139, u140, u141, u142, u143, u144, u145, u146, u147, u148, u149, u150, u151, u152, u153, u154, u155, u156, u157, u158, u159, u160, u161, u162, u163, u164, u165, u166, u167, u168, u169, u170, u171, u172, u173, u174, u175, u176, u177, u178, u179, u180, u181, u182, u183, u184, u185, u186, u187, u188, u189, u190, u191, u192, u193, u194, u195, u196, u197, u198, u199, u200, u201, u202, u203, u204, u205, u206, u207, u208, u209, u210, u211, u212, u213, u214, u215, u216, u217, u218, u219, u220, u221, u222, u223, u224, u225, u226, u227, u228, u229, u230, u231, u232, u233, u234, u235, u236, u237, u238, u239, u240, u241, u242, u243, u244, u245, u246, u247, u248, u249, u250, u251, u252, u253, u254, u255, u256, u257, u258, u259, u260], []⟩ W := by
  have H := hide h
  have hok := h.ok
  have hsq0 := hok.hs0
  have hsq1 := h.sq1
  have hsqk := h.sqk
  have hflb := h.flb
  have hkb := h.kb
  have hmk := h.sh.hk
  have hn := h.nb
  have hlen := h.rr.len
  have hmb : m ≤ 1048578 := by omega
  clear h
  have HK := hide hK
  clear hK
  conv => arg 2; whnf
  by_cases h0 : n = 0
  · have hi := (H.out.sh.nol (by omega)).2
    subst hi
    have g : (n : Int) ≤ 0 := by omega
    clear h0 hlen hmk
    go_wp2
    exact HK.out _ _ _ _ _ _ _ _ _ _ _ _ _ _
  · obtain ⟨j, rfl⟩ : ∃ j, n = j + 1 := ⟨n - 1, by omega⟩
    obtain ⟨l, el, hi, _⟩ := H.out.sh.lst j (by omega)
    obtain ⟨b, o, a, d, rfl, e1, _, hm, _⟩ := H.out.rr.one el
    have hml := hide (show M.least = if fl = 0 then 25 else 26 by unfold Msg.least; rw [H.out.hfl])
    have g : (0 : Int) < (j : Int) + 1 := by omega
    generalize l.length = x at e1 hi hm
    have hi' := hide hi
    clear el hi hlen hmk h0
    by_cases hz : fl = 0
    · have g2 : (fl : Int) ≤ 0 := by omega
      have hl : Hid (Value.bool (decide ((x : Int) + 25 ≤ 1500)) = .bool inl) := by
        show _ = _
        rw [hi'.out, hml.out, if_pos hz]
        congr 1
        rw [decide_eq_decide]
        omega
      clear hz
      go_wp2
      rw [hl.out]
      exact HK.out _ _ _ _ _ _ _ _ _ _ _ _ _ _
    · have g2 : (0 : Int) < fl := by omega
      have hl : Hid (Value.bool (decide ((x : Int) + 26 ≤ 1500)) = .bool inl) := by
        show _ = _
        rw [hi'.out, hml.out, if_neg hz]
        congr 1
        rw [decide_eq_decide]
        omega
      clear hz
      go_wp2
      rw [hl.out]
      exact HK.out _ _ _ _ _ _ _ _ _ _ _ _ _ _

set_option maxRecDepth 100000 in
set_option maxHeartbeats 4000000 in
theorem z16 {M : Msg} {ls out : List (List Int)} {w W : World} {eT : Nat} {ea : Addr} {rso : Option Addr} {n rc : Nat} {o1 : Option Addr} {c1 k : Nat} {er : Value} {fso : Option Addr} {fl r0 c0 m : Nat} {inl : Bool} (h : Mid3 M ls out w W eT ea rso n rc o1 c1 k er fso fl r0 c0 m inl)
    (u2 u6 u8 u9 u10 u11 u12 u13 u14 u15 u16 u17 u19 u20 u26 u28 u29 u30 u31 u32 u33 u34 u35 u36 u37 u38 u39 u40 u41 u42 u43 u44 u45 u46 u47 u48 u49 u50 u51 u52 u53 u54 u55 u56 u57 u58 u59 u60 u61 u62 u63 u64 u65 u66 u67 u68 u69 u70 u71 u72 u73 u74 u75 u76 u77 u78 u79 u80 u81 u82 u83 u84 u85 u86 u87 u88 u89 u90 u91 u92 u93 u94 u95 u96 u97 u98 u99 u100 u101 u102 u103 u104 u105 u106 u107 u108 u109 u110 u111 u112 u113 u114 u115 u116 u117 u118 u119 u120 u121 u122 u123 u124 u125 u126 u127 u128 u129 u130 u131 u132 u133 u134 u135 u136 u137 u138 u139 u140 u141 u142 u143 u144 u145 u146 u147 u148 u149 u150 u151 u152 u153 u154 u155 u156 u157 u158 u159 u160 u161 u162 u163 u164 u165 u166 u167 u168 u169 u170 u171 u172 u173 u174 u175 u176 u177 u178 u179 u180 u181 u182 u183 u184 u185 u186 u187 u188 u189 u190 u191 u192 u193 u194 u195 u196 u197 u198 u199 u200 u201 u202 u203 u204 u205 u206 u207 u208 u209 u210 u211 u212 u213 u214 u215 u216 u217 u218 u219 u220 u221 u222 u223 u224 u225 u226 u227 u228 u229 u230 u231 u232 u233 u234 u235 u236 u237 u238 u239 u240 u241 u242 u243 u244 u245 u246 u247 u248 u249 u250 u251 u252 u253 u254 u255 u256 u257 u258 u259 u260 : Value) (K : Act → World → Prop) (Q : Exit → Act → World → Prop)
    (hK : K ⟨#[.int .u64 M.ep, .int .u64 M.sq, u2, .int .u8 M.ty, .int .u32 M.ln, .int .u16 M.ms, u6, .slice fso fl fl, u8, u9, u10, u11, u12, u13, u14, u15, u16, u17, .slice rso n rc, u19, u20, .slice o1 (n + m) c1, er, .int .u64 (M.sq + (k : Nat)), .int .i64 (n : Nat), .int .i64 (fl : Nat), u26, .bool inl, u28, .int .i64 0, u30, u31, u32, u33, u34, u35, u36, u37, u38, u39, u40, u41, u42, u43, u44, u45, u46, u47, u48, u49, u50, u51, u52, u53, u54, u55, u56, u57, u58, u59, u60, u61, u62, u63, u64, u65, u66, u67, u68, u69, u70, u71, u72, u73, u74, u75, u76, u77, u78, u79, u80, u81, u82, u83, u84, u85, u86, u87, u88, u89, u90, u91, u92, u93, u94, u95, u96, u97, u98, u99, u100, u101, u102, u103, u104, u105, u106, u107, u108, u109, u110, u111, u112, u113, u114, u115, u116, u117, u118, u119, u120, u121, u122, u123, u124, u125, u126, u127, u128, u129, u130, u131, u132, u133, u134, u135, u136, u137, u138, u139, u140, u141, u142, u143, u144, u145, u146, u147, u148, u149, u150, u151, u152, u153, u154, u155, u156, u157, u158, u159, u160, u161, u162, u163, u164, u165, u166, u167, u168, u169, u170, u171, u172, u173, u174, u175, u176, u177, u178, u179, u180, u181, u182, u183, u184, u185, u186, u187, u188, u189, u190, u191, u192, u193, u194, u195, u196, u197, u198, u199, u200, u201, u202, u203, u204, u205, u206, u207, u208, u209, u210, u211, u212, u213, u214, u215, u216, u217, u218, u219, u220, u221, u222, u223, u224, u225, u226, u227, u228, u229, u230, u231, u232, u233, u234, u235, u236, u237, u238, u239, u240, u241, u242, u243, u244, u245, u246, u247, u248, u249, u250, u251, u252, u253, u254, u255, u256, u257, u258, u259, u260], []⟩ W) :
    Code.wp Tryd.prog (nthS 16 (Tryd.f3.body.getD .skip)) (Exit.then K Q) ⟨#[.int .u64 M.ep, .int .u64 M.sq, u2, .int .u8 M.ty, .int .u32 M.ln, .int .u16 M.ms, u6, .slice fso fl fl, u8, u9, u10, u11, u12, u13, u14, u15, u16, u17, .slice rso n rc, u19, u20, .slice o1 (n + m) c1, er, .int .u64 (M.sq + (k : Nat)), .int .i64 (n : Nat), .int .i64 (fl : Nat), u26, .bool inl, u28, u29, u30, u31, u32, u33, u34, u35, u36, u37, u38, u39, u40, u41, u42, u43, u44, u45, u46, u47, u48, u49, u50, u51, u52, u53, u54, u55, u56, u57, u58, u59, u60, u61, u62, u63, u64, u65, u66, u67, u68, u69, u70, u71, u72, u73, u74, u75, u76, u77, u78, u79, u80, u81, u82, u83, u84, u85, u86, u87, u88, u89, u90, u91, u92, u93, u94, u95, u96, u97, u98, u99, u100, u101, u102, u103, u104, u105, u106, u107, u108, u109, u110, u111, u112, u113, u114, u115, u116, u117, u118, u119, u120, u121, u122, u123, u124, u125, u126, u127, u128, u129, u130, u131, u132, u133, u134, u135, u136, u137, u138, u139, u140, u141, u142, u143, u144, u145, u146, u147, u148, u149, u150, u151, u152, u153, u154, u155, u156, u157, u158, u159, u160, u161, u162, u163, u164, u165, u166, u167, u168, u169, u170, u171, u172, u173, u174, u175, u176, u177, u178, u179, u180, u181, u182, u183, u184, u185, u186, u187, u188, u189, u190, u191, u192, u193, u194, u195, u196, u197, u198, u199, u200, u201, u202, u203, u204, u205, u206, u207, u208, u209, u210, u211, u212, u213, u214, u215, u216, u217, u218, u219, u220, u221, u222, u223, u224, u225, u226, u227, u228, u229, u230, u231, u232, u233, u234, u235, u236, u237, u238, u239, u240, u241, u242, u243, u244, u245, u246, u247, u248, u249, u250, u251, u252, u253, u254, u255, u256, u257, u258, u259, u260], []⟩ W := by
  have H := hide h
  have hok := h.ok
  have hsq0 := hok.hs0
  have hsq1 := h.sq1
  have hsqk := h.sqk
  have hflb := h.flb
  have hkb := h.kb
  have hmk := h.sh.hk
  have hn := h.nb
  have hlen := h.rr.len
  have hmb : m ≤ 1048578 := by omega
  clear h
  have HK := hide hK
  clear hK
  conv => arg 2; whnf
  go_wp2
  exact HK.out

set_option maxRecDepth 100000 in
set_option maxHeartbeats 4000000 in
theorem z17 {M : Msg} {ls out : List (List Int)} {w W : World} {eT : Nat} {ea : Addr} {rso : Option Addr} {n rc : Nat} {o1 : Option Addr} {c1 k : Nat} {er : Value} {fso : Option Addr} {fl r0 c0 m : Nat} {inl : Bool} (h : Mid3 M ls out w W eT ea rso n rc o1 c1 k er fso fl r0 c0 m inl)
    (u2 u6 u8 u9 u10 u11 u12 u13 u14 u15 u16 u17 u19 u20 u26 u28 u30 u31 u32 u33 u34 u35 u36 u37 u38 u39 u40 u41 u42 u43 u44 u45 u46 u47 u48 u49 u50 u51 u52 u53 u54 u55 u56 u57 u58 u59 u60 u61 u62 u63 u64 u65 u66 u67 u68 u69 u70 u71 u72 u73 u74 u75 u76 u77 u78 u79 u80 u81 u82 u83 u84 u85 u86 u87 u88 u89 u90 u91 u92 u93 u94 u95 u96 u97 u98 u99 u100 u101 u102 u103 u104 u105 u106 u107 u108 u109 u110 u111 u112 u113 u114 u115 u116 u117 u118 u119 u120 u121 u122 u123 u124 u125 u126 u127 u128 u129 u130 u131 u132 u133 u134 u135 u136 u137 u138 u139 u140 u141 u142 u143 u144 u145 u146 u147 u148 u149 u150 u151 u152 u153 u154 u155 u156 u157 u158 u159 u160 u161 u162 u163 u164 u165 u166 u167 u168 u169 u170 u171 u172 u173 u174 u175 u176 u177 u178 u179 u180 u181 u182 u183 u184 u185 u186 u187 u188 u189 u190 u191 u192 u193 u194 u195 u196 u197 u198 u199 u200 u201 u202 u203 u204 u205 u206 u207 u208 u209 u210 u211 u212 u213 u214 u215 u216 u217 u218 u219 u220 u221 u222 u223 u224 u225 u226 u227 u228 u229 u230 u231 u232 u233 u234 u235 u236 u237 u238 u239 u240 u241 u242 u243 u244 u245 u246 u247 u248 u249 u250 u251 u252 u253 u254 u255 u256 u257 u258 u259 u260 : Value) (K : Act → World → Prop) (Q : Exit → Act → World → Prop)
    (hK : K ⟨#[.int .u64 M.ep, .int .u64 M.sq, u2, .int .u8 M.ty, .int .u32 M.ln, .int .u16 M.ms, u6, .slice fso fl fl, u8, u9, u10, u11, u12, u13, u14, u15, u16, u17, .slice rso n rc, u19, u20, .slice o1 (n + m) c1, er, .int .u64 (M.sq + (k : Nat)), .int .i64 (n : Nat), .int .i64 (fl : Nat), u26, .bool inl, u28, .int .i64 0, .int .i64 0, u31, u32, u33, u34, u35, u36, u37, u38, u39, u40, u41, u42, u43, u44, u45, u46, u47, u48, u49, u50, u51, u52, u53, u54, u55, u56, u57, u58, u59, u60, u61, u62, u63, u64, u65, u66, u67, u68, u69, u70, u71, u72, u73, u74, u75, u76, u77, u78, u79, u80, u81, u82, u83, u84, u85, u86, u87, u88, u89, u90, u91, u92, u93, u94, u95, u96, u97, u98, u99, u100, u101, u102, u103, u104, u105, u106, u107, u108, u109, u110, u111, u112, u113, u114, u115, u116, u117, u118, u119, u120, u121, u122, u123, u124, u125, u126, u127, u128, u129, u130, u131, u132, u133, u134, u135, u136, u137, u138, u139, u140, u141, u142, u143, u144, u145, u146, u147, u148, u149, u150, u151, u152, u153, u154, u155, u156, u157, u158, u159, u160, u161, u162, u163, u164, u165, u166, u167, u168, u169, u170, u171, u172, u173, u174, u175, u176, u177, u178, u179, u180, u181, u182, u183, u184, u185, u186, u187, u188, u189, u190, u191, u192, u193, u194, u195, u196, u197, u198, u199, u200, u201, u202, u203, u204, u205, u206, u207, u208, u209, u210, u211, u212, u213, u214, u215, u216, u217, u218, u219, u220, u221, u222, u223, u224, u225, u226, u227, u228, u229, u230, u231, u232, u233, u234, u235, u236, u237, u238, u239, u240, u241, u242, u243, u244, u245, u246, u247, u248, u249, u250, u251, u252, u253, u254, u255, u256, u257, u258, u259, u260], []⟩ W) :
    Code.wp Tryd.prog (nthS 17 (Tryd.f3.body.getD .skip)) (Exit.then K Q) ⟨#[.int .u64 M.ep, .int .u64 M.sq, u2, .int .u8 M.ty, .int .u32 M.ln, .int .u16 M.ms, u6, .slice fso fl fl, u8, u9, u10, u11, u12, u13, u14, u15, u16, u17, .slice rso n rc, u19, u20, .slice o1 (n + m) c1, er, .int .u64 (M.sq + (k : Nat)), .int .i64 (n : Nat), .int .i64 (fl : Nat), u26, .bool inl, u28, .int .i64 0, u30, u31, u32, u33, u34, u35, u36, u37, u38, u39, u40, u41, u42, u43, u44, u45, u46, u47, u48, u49, u50, u51, u52, u53, u54, u55, u56, u57, u58, u59, u60, u61, u62, u63, u64, u65, u66, u67, u68, u69, u70, u71, u72, u73, u74, u75, u76, u77, u78, u79, u80, u81, u82, u83, u84, u85, u86, u87, u88, u89, u90, u91, u92, u93, u94, u95, u96, u97, u98, u99, u100, u101, u102, u103, u104, u105, u106, u107, u108, u109, u110, u111, u112, u113, u114, u115, u116, u117, u118, u119, u120, u121, u122, u123, u124, u125, u126, u127, u128, u129, u130, u131, u132, u133, u134, u135, u136, u137, u138, u139, u140, u141, u142, u143, u144, u145, u146, u147, u148, u149, u150, u151, u152, u153, u154, u155, u156, u157, u158, u159, u160, u161, u162, u163, u164, u165, u166, u167, u168, u169, u170, u171, u172, u173, u174, u175, u176, u177, u178, u179, u180, u181, u182, u183, u184, u185, u186, u187, u188, u189, u190, u191, u192, u193, u194, u195, u196, u197, u198, u199, u200, u201, u202, u203, u204, u205, u206, u207, u208, u209, u210, u211, u212, u213, u214, u215, u216, u217, u218, u219, u220, u221, u222, u223, u224, u225, u226, u227, u228, u229, u230, u231, u232, u233, u234, u235, u236, u237, u238, u239, u240, u241, u242, u243, u244, u245, u246, u247, u248, u249, u250, u251, u252, u253, u254, u255, u256, u257, u258, u259, u260], []⟩ W := by
  have H := hide h
  have hok := h.ok
  have hsq0 := hok.hs0
  have hsq1 := h.sq1
  have hsqk := h.sqk
  have hflb := h.flb
  have hkb := h.kb
  have hmk := h.sh.hk
  have hn := h.nb
  have hlen := h.rr.len
  have hmb : m ≤ 1048578 := by omega
  clear h
  have HK := hide hK
  clear hK
  conv => arg 2; whnf
  go_wp2
  exact HK.out

set_option maxRecDepth 100000 in
set_option maxHeartbeats 4000000 in
theorem z18 {M : Msg} {ls out : List (List Int)} {w W : World} {eT : Nat} {ea : Addr} {rso : Option Addr} {n rc : Nat} {o1 : Option Addr} {c1 k : Nat} {er : Value} {fso : Option Addr} {fl r0 c0 m : Nat} {inl : Bool} (h : Mid3 M ls out w W eT ea rso n rc o1 c1 k er fso fl r0 c0 m inl)
    (u2 u6 u8 u9 u10 u11 u12 u13 u14 u15 u16 u17 u19 u20 u26 u28 u31 u32 u33 u34 u35 u36 u37 u38 u39 u40 u41 u42 u43 u44 u45 u46 u47 u48 u49 u50 u51 u52 u53 u54 u55 u56 u57 u58 u59 u60 u61 u62 u63 u64 u65 u66 u67 u68 u69 u70 u71 u72 u73 u74 u75 u76 u77 u78 u79 u80 u81 u82 u83 u84 u85 u86 u87 u88 u89 u90 u91 u92 u93 u94 u95 u96 u97 u98 u99 u100 u101 u102 u103 u104 u105 u106 u107 u108 u109 u110 u111 u112 u113 u114 u115 u116 u117 u118 u119 u120 u121 u122 u123 u124 u125 u126 u127 u128 u129 u130 u131 u132 u133 u134 u135 u136 u137 u138 u139 u140 u141 u142 u143 u144 u145 u146 u147 u148 u149 u150 u151 u152 u153 u154 u155 u156 u157 u158 u159 u160 u161 u162 u163 u164 u165 u166 u167 u168 u169 u170 u171 u172 u173 u174 u175 u176 u177 u178 u179 u180 u181 u182 u183 u184 u185 u186 u187 u188 u189 u190 u191 u192 u193 u194 u195 u196 u197 u198 u199 u200 u201 u202 u203 u204 u205 u206 u207 u208 u209 u210 u211 u212 u213 u214 u215 u216 u217 u218 u219 u220 u221 u222 u223 u224 u225 u226 u227 u228 u229 u230 u231 u232 u233 u234 u235 u236 u237 u238 u239 u240 u241 u242 u243 u244 u245 u246 u247 u248 u249 u250 u251 u252 u253 u254 u255 u256 u257 u258 u259 u260 : Value) (K : Act → World → Prop) (Q : Exit → Act → World → Prop)
    (hK : K ⟨#[.int .u64 M.ep, .int .u64 M.sq, u2, .int .u8 M.ty, .int .u32 M.ln, .int .u16 M.ms, u6, .slice fso fl fl, u8, u9, u10, u11, u12, u13, u14, u15, u16, u17, .slice rso n rc, u19, u20, .slice o1 (n + m) c1, er, .int .u64 (M.sq + (k : Nat)), .int .i64 (n : Nat), .int .i64 (fl : Nat), u26, .bool inl, u28, .int .i64 0, .int .i64 0, .bool false, u32, u33, u34, u35, u36, u37, u38, u39, u40, u41, u42, u43, u44, u45, u46, u47, u48, u49, u50, u51, u52, u53, u54, u55, u56, u57, u58, u59, u60, u61, u62, u63, u64, u65, u66, u67, u68, u69, u70, u71, u72, u73, u74, u75, u76, u77, u78, u79, u80, u81, u82, u83, u84, u85, u86, u87, u88, u89, u90, u91, u92, u93, u94, u95, u96, u97, u98, u99, u100, u101, u102, u103, u104, u105, u106, u107, u108, u109, u110, u111, u112, u113, u114, u115, u116, u117, u118, u119, u120, u121, u122, u123, u124, u125, u126, u127, u128, u129, u130, u131, u132, u133, u134, u135, u136, u137, u138, u139, u140, u141, u142, u143, u144, u145, u146, u147, u148, u149, u150, u151, u152, u153, u154, u155, u156, u157, u158, u159, u160, u161, u162, u163, u164, u165, u166, u167, u168, u169, u170, u171, u172, u173, u174, u175, u176, u177, u178, u179, u180, u181, u182, u183, u184, u185, u186, u187, u188, u189, u190, u191, u192, u193, u194, u195, u196, u197, u198, u199, u200, u201, u202, u203, u204, u205, u206, u207, u208, u209, u210, u211, u212, u213, u214, u215, u216, u217, u218, u219, u220, u221, u222, u223, u224, u225, u226, u227, u228, u229, u230, u231, u232, u233, u234, u235, u236, u237, u238, u239, u240, u241, u242, u243, u244, u245, u246, u247, u248, u249, u250, u251, u252, u253, u254, u255, u256, u257, u258, u259, u260], []⟩ W) :
    Code.wp Tryd.prog (nthS 18 (Tryd.f3.body.getD .skip)) (Exit.then K Q) ⟨#[.int .u64 M.ep, .int .u64 M.sq, u2, .int .u8 M.ty, .int .u32 M.ln, .int .u16 M.ms, u6, .slice fso fl fl, u8, u9, u10, u11, u12, u13, u14, u15, u16, u17, .slice rso n rc, u19, u20, .slice o1 (n + m) c1, er, .int .u64 (M.sq + (k : Nat)), .int .i64 (n : Nat), .int .i64 (fl : Nat), u26, .bool inl, u28, .int .i64 0, .int .i64 0, u31, u32, u33, u34, u35, u36, u37, u38, u39, u40, u41, u42, u43, u44, u45, u46, u47, u48, u49, u50, u51, u52, u53, u54, u55, u56, u57, u58, u59, u60, u61, u62, u63, u64, u65, u66, u67, u68, u69, u70, u71, u72, u73, u74, u75, u76, u77, u78, u79, u80, u81, u82, u83, u84, u85, u86, u87, u88, u89, u90, u91, u92, u93, u94, u95, u96, u97, u98, u99, u100, u101, u102, u103, u104, u105, u106, u107, u108, u109, u110, u111, u112, u113, u114, u115, u116, u117, u118, u119, u120, u121, u122, u123, u124, u125, u126, u127, u128, u129, u130, u131, u132, u133, u134, u135, u136, u137, u138, u139, u140, u141, u142, u143, u144, u145, u146, u147, u148, u149, u150, u151, u152, u153, u154, u155, u156, u157, u158, u159, u160, u161, u162, u163, u164, u165, u166, u167, u168, u169, u170, u171, u172, u173, u174, u175, u176, u177, u178, u179, u180, u181, u182, u183, u184, u185, u186, u187, u188, u189, u190, u191, u192, u193, u194, u195, u196, u197, u198, u199, u200, u201, u202, u203, u204, u205, u206, u207, u208, u209, u210, u211, u212, u213, u214, u215, u216, u217, u218, u219, u220, u221, u222, u223, u224, u225, u226, u227, u228, u229, u230, u231, u232, u233, u234, u235, u236, u237, u238, u239, u240, u241, u242, u243, u244, u245, u246, u247, u248, u249, u250, u251, u252, u253, u254, u255, u256, u257, u258, u259, u260], []⟩ W := by
  have H := hide h
  have hok := h.ok
  have hsq0 := hok.hs0
  have hsq1 := h.sq1
  have hsqk := h.sqk
  have hflb := h.flb
  have hkb := h.kb
  have hmk := h.sh.hk
  have hn := h.nb
  have hlen := h.rr.len
  have hmb : m ≤ 1048578 := by omega
  clear h
  have HK := hide hK
  clear hK
  conv => arg 2; whnf
  go_wp2
  exact HK.out

end Go.Proofs.Qxb6614518aDoor
