/-
  OURS. FnRecordLayerSendHandshakeFreshAndFull (f4): statement 24, where there is no room in the last datagram: it returns true.
-/
import Derived.Test.Qxb6614518aDoorSegA
namespace Go.Proofs.Qxb6614518aDoor
open Go Go.RowKit
set_option linter.unusedVariables false

theorem pair_rows {W : World} {s1 s2 : Option Addr} {n1 n2 c1 c2 : Nat} {L1 L2 : List (List Int)} (h1 : RowsAt W s1 n1 c1 L1) (h2 : RowsAt W s2 n2 c2 L2) {i j : Nat} {l : List Int} (e1 : L1[i]? = some l) (e2 : L2[j]? = some l) :
    ∃ b o b' o' a1 d1 a2 d2 m, s1 = some ⟨b, o, none⟩ ∧ s2 = some ⟨b', o', none⟩ ∧ W.cell? ⟨b, o + i, none⟩ = some (.slice a1 m d1) ∧ W.cell? ⟨b', o' + j, none⟩ = some (.slice a2 m d2) ∧ m ≤ 140737488355328 ∧ Hid (∃ xs, Src W a1 m d1 xs ∧ Src W a2 m d2 xs) := by
  obtain ⟨b, o, a1, d1, q1, q2, q3, q4, _⟩ := h1.one e1
  obtain ⟨b', o', a2, d2, r1, r2, r3, r4, _⟩ := h2.one e2
  exact ⟨b, o, b', o', a1, d1, a2, d2, l.length, q1, r1, q2, r2, q4, l, q3, r3⟩

/-- zzEq at a pair of rows, in a later world. -/
theorem eq_pair {W wr : World} {q : Nat} (hw : wr = W.drewN q) {a1 a2 : Option Addr} {m d1 d2 : Nat} (h : Hid (∃ xs, Src W a1 m d1 xs ∧ Src W a2 m d2 xs)) (hm : m ≤ 140737488355328) (n : Nat) :
    Calls Tryd.prog 11 #[.slice a1 m d1, .slice a2 m d2] (wr.drewN n) fun e w' => e = .returned (.bool true) ∧ ∃ q', w' = (wr.drewN n).drewN q' := by
  obtain ⟨xs, h1, h2⟩ := h.out
  subst hw
  exact eq_any (src_drewN (src_drewN h1 q) n) (src_drewN (src_drewN h2 q) n) hm

set_option maxRecDepth 100000 in
set_option maxHeartbeats 4000000 in
theorem r24 {M : Msg} {ls : List (List Int)} {w W : World} {eT : Nat} {ea : Addr} {rso : Option Addr} {n rc : Nat} {o1 : Option Addr} {n1 c1 k1 : Nat} {er1 : Value} {o2 : Option Addr} {S c2 : Nat} {er2 : Value} {fl N : Nat} (h : Mid M ls w W eT ea rso n rc o1 n1 c1 k1 er1 o2 S c2 er2 fl N) {lst : Nat} (hlst : lst = if fl = 0 then 25 else 26) (hF : Full M ls)
    (u2 u3 u4 u5 u6 u7 u8 u9 u10 u11 u12 u13 u14 u15 u16 u17 u19 u20 u24 u31 u32 u33 u36 u37 u38 u39 u40 u41 u42 u43 u44 u45 u46 u47 u48 u49 u50 u51 u52 u53 u54 u55 u56 u57 u58 u59 u60 u61 u62 u63 u64 u65 u66 u67 u68 u69 u70 u71 u72 u73 u74 u75 u76 u77 u78 u79 u80 u81 u82 u83 u84 u85 u86 u87 u88 u89 u90 u91 u92 u93 u94 u95 u96 u97 u98 u99 u100 u101 u102 u103 u104 u105 u106 u107 u108 u109 u110 u111 u112 u113 u114 u115 u116 u117 u118 u119 u120 u121 u122 u123 u124 u125 u126 u127 u128 u129 u130 u131 u132 u133 u134 u135 u136 u137 u138 u139 u140 u141 u142 u143 u144 u145 u146 u147 u148 u149 u150 u151 u152 u153 u154 u155 u156 u157 u158 u159 u160 u161 u162 u163 u164 u165 u166 u167 u168 u169 u170 u171 u172 u173 u174 u175 u176 u177 u178 u179 u180 u181 u182 u183 u184 u185 u186 u187 u188 u189 u190 u191 u192 u193 u194 u195 u196 u197 u198 u199 u200 u201 u202 u203 u204 u205 u206 u207 u208 u209 u210 u211 u212 u213 u214 u215 u216 u217 u218 u219 u220 u221 u222 u223 u224 u225 u226 u227 u228 u229 u230 u231 u232 u233 u234 u235 u236 u237 u238 u239 u240 u241 u242 u243 u244 u245 u246 u247 u248 u249 u250 u251 u252 u253 u254 u255 u256 u257 u258 u259 u260 u261 u262 u263 u264 u265 u266 u267 u268 u269 u270 u271 u272 u273 u274 u275 u276 u277 u278 u279 u280 u281 u282 u283 : Value) (K : Act → World → Prop) :
    Code.wp Tryd.prog (nthS 24 (Tryd.f4.body.getD .skip)) (Exit.then K (bodyPost Tryd.prog Tryd.f4 (Holds w))) ⟨#[.int .u64 M.ep, .int .u64 M.sq, u2, u3, u4, u5, u6, u7, u8, u9, u10, u11, u12, u13, u14, u15, u16, u17, .slice rso n rc, u19, u20, .slice o1 n1 c1, er1, .int .u64 (M.sq + (k1 : Nat)), u24, .slice o2 S c2, er2, .int .u64 (M.sq + (S : Nat)), .int .i64 (fl : Nat), .int .i64 (N : Nat), .int .i64 (S : Nat), u31, u32, u33, .int .i64 (n : Nat), .int .i64 (lst : Nat), u36, u37, u38, u39, u40, u41, u42, u43, u44, u45, u46, u47, u48, u49, u50, u51, u52, u53, u54, u55, u56, u57, u58, u59, u60, u61, u62, u63, u64, u65, u66, u67, u68, u69, u70, u71, u72, u73, u74, u75, u76, u77, u78, u79, u80, u81, u82, u83, u84, u85, u86, u87, u88, u89, u90, u91, u92, u93, u94, u95, u96, u97, u98, u99, u100, u101, u102, u103, u104, u105, u106, u107, u108, u109, u110, u111, u112, u113, u114, u115, u116, u117, u118, u119, u120, u121, u122, u123, u124, u125, u126, u127, u128, u129, u130, u131, u132, u133, u134, u135, u136, u137, u138, u139, u140, u141, u142, u143, u144, u145, u146, u147, u148, u149, u150, u151, u152, u153, u154, u155, u156, u157, u158, u159, u160, u161, u162, u163, u164, u165, u166, u167, u168, u169, u170, u171, u172, u173, u174, u175, u176, u177, u178, u179, u180, u181, u182, u183, u184, u185, u186, u187, u188, u189, u190, u191, u192, u193, u194, u195, u196, u197, u198, u199, u200, u201, u202, u203, u204, u205, u206, u207, u208, u209, u210, u211, u212, u213, u214, u215, u216, u217, u218, u219, u220, u221, u222, u223, u224, u225, u226, u227, u228, u229, u230, u231, u232, u233, u234, u235, u236, u237, u238, u239, u240, u241, u242, u243, u244, u245, u246, u247, u248, u249, u250, u251, u252, u253, u254, u255, u256, u257, u258, u259, u260, u261, u262, u263, u264, u265, u266, u267, u268, u269, u270, u271, u272, u273, u274, u275, u276, u277, u278, u279, u280, u281, u282, u283], []⟩ W := by
  have H := hide h
  have hsq0 := h.sq0
  have hsq1 := h.sq1
  have hflb := h.flb
  have hNf := need_facts fl
  have hSf := sent_facts fl M.sq
  rw [h.need] at hNf hSf
  rw [h.sent] at hSf
  have hSb : M.sq + S ≤ 18446744073709551615 := by omega
  have hNb : N ≤ 1048577 := by omega
  have hSN : S ≤ N := hSf.1
  have hn := h.nb
  have ho := out_full hF h.out1
  have hst := st_full hF k1 h.out1.1
  rw [h.hfl, h.sent, h.need] at ho
  obtain ⟨hk1, her1⟩ := ho
  have hr1 : RowsAt W o1 n1 c1 (ls ++ M.fr 0 0 S) := by
    have := h.r1
    rw [hst, hk1] at this
    exact this
  have hn1 : n1 = n + S := by rw [← hr1.len, List.length_append, M.length_fr, h.rr.len]
  subst hk1
  subst hn1
  have R1 := hide hr1
  have RR := hide h.rr
  have R2 := hide h.r2
  have ER := hide (And.intro her1 h.her2)
  have FIN := hide h.fin
  have hlen := hide h.rr.len
  have FULL := hide (show 0 < n → ∃ l : List Int, ls[n - 1]? = some l ∧ 1500 < l.length + lst by
    intro h0
    have hl := h.rr.len
    have e : ls[n - 1]? = some (ls[n - 1]'(by omega)) := List.getElem?_eq_getElem (by omega)
    refine ⟨_, e, ?_⟩
    have := hF (ls[n - 1]'(by omega)) (by rw [List.getLast?_eq_getElem?]; simp only [hl]; exact e)
    rw [h.hfl] at this
    rw [hlst]
    exact this)
  have hlb : lst ≤ 26 := by rw [hlst]; split <;> omega
  clear h hNf hSf hst hr1 her1 hlst
  have E1 : ∀ i, i < n → ∃ b o b' o' a1 d1 a2 d2 m, o1 = some ⟨b, o, none⟩ ∧ rso = some ⟨b', o', none⟩ ∧ W.cell? ⟨b, o + i, none⟩ = some (.slice a1 m d1) ∧ W.cell? ⟨b', o' + i, none⟩ = some (.slice a2 m d2) ∧ m ≤ 140737488355328 ∧ Hid (∃ xs, Src W a1 m d1 xs ∧ Src W a2 m d2 xs) := fun i hi => by
    have hl := hlen.out
    have e : ls[i]? = some (ls[i]'(by omega)) := List.getElem?_eq_getElem (by omega)
    exact pair_rows R1.out RR.out (by rw [List.getElem?_append_left (by omega)]; exact e) e
  have E2 : ∀ i, i < k1 → ∃ b o b' o' a1 d1 a2 d2 m, o1 = some ⟨b, o, none⟩ ∧ o2 = some ⟨b', o', none⟩ ∧ W.cell? ⟨b, o + (n + i), none⟩ = some (.slice a1 m d1) ∧ W.cell? ⟨b', o' + i, none⟩ = some (.slice a2 m d2) ∧ m ≤ 140737488355328 ∧ Hid (∃ xs, Src W a1 m d1 xs ∧ Src W a2 m d2 xs) := fun i hi => by
    have hl := hlen.out
    have e := M.fr_get 0 0 k1 i hi
    exact pair_rows R1.out R2.out (by rw [List.getElem?_append_right (by omega), hl, Nat.add_sub_cancel_left]; exact e) e
  have E1' := hide E1
  have E2' := hide E2
  clear E1 E2 R1 R2
  conv => arg 2; whnf
  go_upto_region 45 with fail
  dsimp only
  go_cut [181] (fun s wx => s = .bool true ∧ W = wx)
  case first =>
    by_cases h0 : n = 0
    · subst h0
      go_wp2
      go_meet
      case rel => exact ⟨by simp, rfl⟩
    · obtain ⟨j, rfl⟩ : ∃ j, n = j + 1 := ⟨n - 1, by omega⟩
      obtain ⟨l, hl, hlen2⟩ := FULL.out (by omega)
      obtain ⟨b, o, a, d, rfl, e1, _, hm, _⟩ := RR.out.one hl
      rw [Nat.add_sub_cancel] at e1
      clear hl
      generalize l.length = m at e1 hlen2 hm
      go_wp2
      go_meet
      case rel => exact ⟨by simp; omega, rfl⟩
  case rest =>
    obtain ⟨rfl, rfl⟩ := hcut
    go_wp2_with fail
    go_loopw [36] (fun i wr => ∃ k q : Nat, k ≤ n ∧ i = .int .i64 k ∧ Hid (wr = W.drewN q)) (fun i _ => n - (intOf i).toNat)
    case atStart => exact ⟨0, 0, Nat.zero_le _, rfl, rfl⟩
    case round =>
      obtain ⟨k, q, hk, rfl, hw⟩ := hrel
      by_cases hlt : k < n
      · obtain ⟨b, o, b', o', a1, d1, a2, d2, m, rfl, rfl, e1, e2, hm, HS⟩ := E1'.out k hlt
        replace e1 : wr.cell? ⟨b, o + k, none⟩ = some (.slice a1 m d1) := by rw [hw.out]; exact e1
        replace e2 : wr.cell? ⟨b', o' + k, none⟩ = some (.slice a2 m d2) := by rw [hw.out]; exact e2
        have g1 : (k : Int) < (n : Int) + k1 := by omega
        go_wp2_with fail
        go_quiet ((go_at_call 11; exact Calls.quiet_of (eq_pair hw.out HS hm _)))
        go_wp2
        go_roundw
        case rel => exact ⟨k + 1, _, by omega, by go_num, by rw [hw.out, World.drewN_drewN]; rfl⟩
        case measure => simp [intOf]; omega
      · go_wp2_with fail
        go_loopw [37] (fun i wx => ∃ k q : Nat, k ≤ k1 ∧ i = .int .i64 k ∧ Hid (wx = W.drewN q)) (fun i _ => k1 - (intOf i).toNat)
        case atStart => exact ⟨0, q, Nat.zero_le _, rfl, hw⟩
        case round =>
          obtain ⟨k', q', hk', rfl, hw'⟩ := hrel
          by_cases hlt' : k' < k1
          · obtain ⟨b, o, b', o', a1, d1, a2, d2, m, rfl, rfl, e1, e2, hm, HS⟩ := E2'.out k' hlt'
            replace e1 : wr.cell? ⟨b, o + (n + k'), none⟩ = some (.slice a1 m d1) := by rw [hw'.out]; exact e1
            replace e2 : wr.cell? ⟨b', o' + k', none⟩ = some (.slice a2 m d2) := by rw [hw'.out]; exact e2
            have g1 : (n : Int) + k' < (n : Int) + k1 := by omega
            have g2 : (n : Int) + k' ≤ 4000000 := by omega
            go_wp2_with fail
            go_quiet ((go_at_call 11; exact Calls.quiet_of (eq_pair hw'.out HS hm _)))
            go_wp2
            go_roundw
            case rel => exact ⟨k' + 1, _, by omega, by go_num, by rw [hw'.out, World.drewN_drewN]; rfl⟩
            case measure => simp [intOf]; omega
          · have FQ : Hid (∀ q2, Holds w (.returned (.bool true)) (wr.drewN q2)) := fun q2 => by rw [hw'.out, World.drewN_drewN]; exact FIN.out _
            rcases ER.out.1 with ⟨f1, f2⟩ | ⟨f1, f2⟩
            · rcases ER.out.2 with ⟨g1, g2⟩ | ⟨g1, g2⟩
              · subst f1 g1
                clear f2 g2
                go_wp2_with fail
                go_quiet (fail)
                go_wp2
                go_ret
                exact FQ.out _
              · omega
            · rcases ER.out.2 with ⟨g1, g2⟩ | ⟨g1, g2⟩
              · omega
              · subst f1 g1
                clear f2 g2
                go_wp2_with fail
                go_quiet (fail)
                go_wp2
                go_ret
                exact FQ.out _
end Go.Proofs.Qxb6614518aDoor
