/-
  OURS. FnRecordLayerSendHandshakeFragments: the row out of the walk, and the tied card.
-/
import Derived.Test.Qxb6614518aDoorLaw3
import Derived.Test.Qxb6614518aDoorBig
import Derived.Test.Qxb6614518aDoorOpen
import Derived.Test.Qxb6614518aDoorTie
import Derived.Test.Qxb6614518aDoorCards
namespace Go.Proofs.Qxb6614518aDoor
open Go Go.ChangeShapes Go.WideShapes Go.ChangeAt Go.RowKit
set_option linter.unusedVariables false
namespace fnRecordLayerSendHandshakeFragments

set_option maxRecDepth 100000 in
theorem lifted (os : Os) (started : os.Started) (H : Type) (enc : TypeId × Value → H) :
    ReturnsInHanded {} Tryd.checked os 3 .any (fun w args => (Rows.fnRecordLayerSendHandshakeFragmentsSpec.pre enc Tryd.prog Tryd.f3 [] false w args ∧ laidMetH Tryd.prog laid1 w) ∧ sizedMet enc Tryd.prog Tryd.f3 (OpenSpec.ofChange Rows.fnRecordLayerSendHandshakeFragmentsSpec) false w args)
      (Rows.fnRecordLayerSendHandshakeFragmentsSpec.post enc Tryd.prog Tryd.f3 false true false false) := by
  refine returnsInHanded_of_change_and (C := Tryd.checked) (X := fun w _ => laidMetH Tryd.prog laid1 w) (fun _ _ _ hh h => h.of_heap hh) own started (by kernel_rfl) Tryd.func3
    (ChangeSpec.witness_shaped (enc := enc) (C := Tryd.checked) (os := os) (X := fun w _ => laidMetH Tryd.prog laid1 w) false (World.doorLaid Tryd.prog 400 os) #[.int .u64 0, .int .u64 0, .slice none 0 0, .int .u8 0, .int .u32 0, .int .u16 0, .int .u32 0, .slice none 0 0] 8 rfl (World.shaped_of_RefB (by kernel_rfl) (by kernel_rfl)) (by kernel_rfl) (by kernel_rfl) (by kernel_rfl) (door_met os _)) ?_
  intro W base args ds gs before hval0 hW _ hsz0 hL _
  have hsz : (DataW.weightsEach Tryd.prog (Tryd.f3.params.toList ++ Rows.fnRecordLayerSendHandshakeFragmentsSpec.plain.varTypes Tryd.prog) (ds ++ gs)).all (· ≤ reachBytes) = true := hsz0
  have hval : ∀ (j : Nat) t v, Tryd.f3.params[j]? = some t → args[j]? = some v → Value.okWide Tryd.prog W .any base t v := hval0
  have hW' := hW
  obtain ⟨p, q, hA0, hV0, rfl, hfz, hnd⟩ := hW
  have hA : DataW.TrodAll enc Tryd.prog W 0 (fun _ => true) true Tryd.f3.params.toList args.toList ds p := hA0
  have hV : DataW.TrodVars enc Tryd.prog W (fun _ => true) [vErr] gs q := hV0
  rw [Tryd.params3] at hA hval hsz
  obtain ⟨v0, vs0, d0, ds0, p0, q0, hargs, rfl, rfl, h0, r0⟩ := trodAll_cons hA
  obtain ⟨v1, vs1, d1, ds1, p1, q1, rfl, rfl, rfl, h1, r1⟩ := trodAll_cons r0
  obtain ⟨v2, vs2, d2, ds2, p2, q2, rfl, rfl, rfl, h2, r2⟩ := trodAll_cons r1
  obtain ⟨v3, vs3, d3, ds3, p3, q3, rfl, rfl, rfl, h3, r3⟩ := trodAll_cons r2
  obtain ⟨v4, vs4, d4, ds4, p4, q4, rfl, rfl, rfl, h4, r4⟩ := trodAll_cons r3
  obtain ⟨v5, vs5, d5, ds5, p5, q5, rfl, rfl, rfl, h5, r5⟩ := trodAll_cons r4
  obtain ⟨v6, vs6, d6, ds6, p6, q6, rfl, rfl, rfl, h6, r6⟩ := trodAll_cons r5
  obtain ⟨v7, vs7, d7, ds7, p7, q7, rfl, rfl, rfl, h7, r7⟩ := trodAll_cons r6
  obtain ⟨rfl, rfl, rfl⟩ := trodAll_nil r7
  obtain rfl : args = #[v0, v1, v2, v3, v4, v5, v6, v7] := by cases args; simp_all
  obtain ⟨ea, hv⟩ := err_of_laid hL
  obtain ⟨rfl, rfl⟩ := hV.unique (vars_read1 enc gErr tErr Tryd.underlying33 hv trivial _)
  obtain ⟨a2, len2, cap2, rfl⟩ := okWide_slice Tryd.underlying23 (hval 2 23 v2 rfl rfl)
  have k2 := h2
  have lt2 : ∀ x ∈ p2, x.block < W.heap.size := by obtain ⟨m, hm⟩ := k2; exact DataW.trod_lt m _ _ _ hm
  obtain ⟨ls, hrows, hn⟩ := open_rows (j := 2) hsz rfl rfl h2
  obtain ⟨a7, len7, cap7, rfl⟩ := okWide_slice Tryd.underlying26 (hval 7 26 v7 rfl rfl)
  have k7 := h7
  have lt7 : ∀ x ∈ p7, x.block < W.heap.size := by obtain ⟨m, hm⟩ := k7; exact DataW.trod_lt m _ _ _ hm
  obtain ⟨ys, hsrc, hfl⟩ := open_bytes (j := 7) hsz rfl rfl h7
  obtain ⟨a0, rfl, rfl, rfl, w0⟩ := open_int Tryd.underlying22 (hval 0 22 v0 rfl rfl) h0
  obtain ⟨a1, rfl, rfl, rfl, w1⟩ := open_int Tryd.underlying22 (hval 1 22 v1 rfl rfl) h1
  obtain ⟨a3, rfl, rfl, rfl, w3⟩ := open_int Tryd.underlying5 (hval 3 5 v3 rfl rfl) h3
  obtain ⟨a4, rfl, rfl, rfl, w4⟩ := open_int Tryd.underlying24 (hval 4 24 v4 rfl rfl) h4
  obtain ⟨a5, rfl, rfl, rfl, w5⟩ := open_int Tryd.underlying25 (hval 5 25 v5 rfl rfl) h5
  obtain ⟨a6, rfl, rfl, rfl, w6⟩ := open_int Tryd.underlying24 (hval 6 24 v6 rfl rfl) h6
  clear hA0 hval0 hV0
  have hg : W.cell? ⟨1, 0, none⟩ = some (.iface 76 (.pointer (some ea))) := by simpa using World.var?_cell gErr hv 0
  have hlt : 1 < W.heap.size := World.block_lt_of_cell? W _ hg
  have b0 := bounds_u64 w0
  have b1 := bounds_u64 w1
  have b3 := bounds_u8 w3
  have b4 := bounds_u32 w4
  have b5 := bounds_u16 w5
  have fin : ∀ (e : Ending) (W' : World), Holds W e W' → ∃ v, e = .returned v ∧ Rows.fnRecordLayerSendHandshakeFragmentsSpec.post enc Tryd.prog Tryd.f3 false true false false W #[.int .u64 a0, .int .u64 a1, .slice a2 len2 cap2, .int .u8 a3, .int .u32 a4, .int .u16 a5, .int .u32 a6, .slice a7 len7 cap7] v W' := by
    rintro e W' ⟨rfl, bel⟩
    refine ⟨_, rfl, _, _, _, [], _, [.cell 1 0], hW', trodAll_mk1 (shut_bool Tryd.underlying4 _), (trodAll_cons_mk (shut_int Tryd.underlying22 w0) (trodAll_cons_mk (shut_int Tryd.underlying22 w1) (trodAll_cons_mk (Below.trod laidOut (by kernel_rfl) (of_decide_eq_true (by kernel_rfl)) k2 bel lt2) (trodAll_cons_mk (shut_int Tryd.underlying5 w3) (trodAll_cons_mk (shut_int Tryd.underlying24 w4) (trodAll_cons_mk (shut_int Tryd.underlying25 w5) (trodAll_cons_mk (shut_int Tryd.underlying24 w6) (trodAll_cons_mk (Below.trod laidOut (by kernel_rfl) (of_decide_eq_true (by kernel_rfl)) k7 bel lt7) trodAll_mk0)))))))), vars_read1 enc gErr tErr Tryd.underlying33 (var?_below bel gErr hlt hv) trivial _, bel.frame _, fun h => by cases h⟩
  by_cases hbig : len7 ≤ 1048576
  · exact (law3 (w := W) ⟨hrows, hn, hsrc, hfl, hg, hlt⟩ ⟨a0, a1, a3, a4, a5, ys⟩ ⟨b0.1, b0.2, b1.1, b3.1, b3.2, b4.1, b4.2, b5.1, b5.2, by show ys.length ≤ 1048576; rw [hsrc.len]; exact hbig⟩ b1.2 rfl a6).mono fin
  · exact (law3_big (w := W) ⟨hrows, hn, hsrc, hfl, hg, hlt⟩ (by omega) a0 a1 a3 a4 a5 a6).mono fin

theorem over : Rows.FnRecordLayerSendHandshakeFragmentsSaid :=
  OpenClaim.holds_of_wide 3 Tryd.f3 rfl rfl rfl rfl rfl rfl rfl ⟨rfl, rfl, rfl, rfl, rfl⟩ rfl rfl rfl rfl rfl (by kernel_rfl) Tryd.func3 (by kernel_rfl)
    (of_decide_eq_true (by kernel_rfl)) (by unfold Func.isWrapper; first | (rw [if_pos (by decide +kernel)]; kernel_rfl) | (rw [if_neg (by decide +kernel)]; exact ⟨rfl, rfl⟩))
    (fun os started H enc _ => lifted os started H enc)

/-- THE TIED CARD -/
theorem proved : Rows.FnRecordLayerSendHandshakeFragmentsCardSaid :=
  Claim7.holds_tied_plain_at .later [] [.sentinel] true Rows.fnRecordLayerSendHandshakeFragmentsCard.stood.harness false
    over (fun _ h => by cases h) (by kernel_rfl) (fun _ h => by cases h) fnRecordLayerSendHandshakeFragments_row_tie rfl ⟨rfl, rfl⟩ (by kernel_rfl) rfl
    (fun f fn hf hfn => by
      obtain rfl : f = 3 := Option.some.inj ((show Tryd.prog.funcNamed Rows.fnRecordLayerSendHandshakeFragmentsRow.func = some 3 by kernel_rfl).symm.trans hf) |>.symm
      obtain rfl : fn = Tryd.f3 := (Option.some.inj (Tryd.func3.symm.trans hfn)).symm
      exact ⟨by kernel_rfl, fun j t ht => by
        rw [Tryd.params3] at ht
        have hm : t ∈ [22, 22, 23, 5, 24, 25, 24, 26] := by simpa using Array.mem_of_getElem? ht
        have hall : ([22, 22, 23, 5, 24, 25, 24, 26].all fun u => !Tryd.prog.wantsStandIn u) = true := by kernel_rfl
        exact (show Tryd.prog.wantsStandIn t = false by simpa using List.all_eq_true.1 hall t hm)⟩)
    (by kernel_rfl)
end fnRecordLayerSendHandshakeFragments
end Go.Proofs.Qxb6614518aDoor
