/-
  THE SHELL OF A PROOF OF 'Rows.FnDeliversCountsGrantsSaid' ('example.com/fenmail/fenmail/zzlaws_router_b1.FnDeliversCountsGrants'), WRITTEN BY PROGRAM (proof-skeleton.mjs) off the guide's own print for that function. Not trusted: Lean checks it.
  The frame is the guide's (a shell written by its tool); the walk is ours.
-/
import Derived.Test.Qxb6605808aRows
import Derived.WalkKit
import Derived.ProofKit
import Derived.OpenShut
import Derived.ShutString
import Derived.Test.Qxb6605808aDlv
namespace Go.Proofs.Qxb6605808a.fnDeliversCountsGrants
open Go.ChangeShapes Go.WideShapes Go.ChangeAt Go.RowKit
open Go.ChangeMaps (open_string shut_string)
set_option linter.unusedVariables false      -- a walk need not use every 'w<i>' (that an integer argument fits its kind)

theorem own : ownKnob Try.prog.godebug = none := by kernel_rfl

theorem grown_trans {a b c : World} (h : Grown a b) (k : Grown b c) : Grown a c := ⟨World.keptBut_trans h.1 k.1, fun x => (k.2.1 x).trans (h.2.1 x), Nat.le_trans h.2.2 k.2.2⟩

theorem hidd {p : Prop} (h : p) : Hid p := h

theorem slash_full : (ByteArray.mk #[47]).toList.isEmpty = false := by decide +kernel
theorem none_empty : (ByteArray.mk #[]).toList.isEmpty = true := by decide +kernel

theorem bytes_yes (f : ByteArray) (p a : Bool) (k : Int) (w : World) (h : f.size ≤ 1048576) :
    Calls Try.prog 5 #[.string f, .bool p, .bool a, .int .i64 k] w fun e w' => e = .returned (.bool true) ∧ w = w' := by
  go_enter Try.func5, Try.ntmps5
  go_wp2
  go_ret
  exact ⟨rfl, rfl⟩

theorem bytes_no (f : ByteArray) (p a : Bool) (k : Int) (w : World) (h : ¬ f.size ≤ 1048576) (hm : f.size ≤ maxLen) :
    Calls Try.prog 5 #[.string f, .bool p, .bool a, .int .i64 k] w fun e w' => e = .returned (.bool false) ∧ w = w' := by
  unfold maxLen at hm
  have h' : (1048576 : Int) < f.size := by omega
  go_enter Try.func5, Try.ntmps5
  go_wp2
  go_ret
  exact ⟨rfl, rfl⟩

/-! ### STEP 1: THE WALK: the Go text returns true. 'Grown w w'': the world has at most new blocks (Derived/RowKit3.lean). Part the cases AHEAD of 'go_enter' where a test parts the walk; take each callee by a contract of your own. -/
set_option maxRecDepth 100000 in
set_option maxHeartbeats 2000000 in
theorem walk (a0 : ByteArray) (a1 : Bool) (a2 : Bool) (a3 : Int) (w0 : a0.size ≤ maxLen) (w3 : (Lit.int .i64 a3).wf = true) (w : World) :
    Calls Try.prog 3 #[.string a0, .bool a1, .bool a2, .int .i64 a3] w fun e w' => e = .returned (.bool true) ∧ Grown w w' := by
  by_cases hs : a0.size ≤ 1048576
  case neg =>
    go_enter Try.func3, Try.ntmps3
    go_wp2_with fail
    refine (bytes_no a0 a1 a2 a3 w hs w0).mono ?_
    rintro e w' ⟨rfl, rfl⟩
    go_wp2
    go_ret
    exact ⟨rfl, Grown.refl _⟩
  case pos =>
    by_cases k1 : a3 = 1
    case pos =>
      subst k1
      by_cases hf : a0.toList.isEmpty = true
      case pos =>
        cases a1 <;> cases a2
        all_goals
          go_enter Try.func3, Try.ntmps3
          go_wp2_with fail
          refine (bytes_yes a0 _ _ 1 w hs).mono ?_
          rintro e w' ⟨rfl, rfl⟩
          go_wp2_with fail
          refine (zz_empty a0 _ _ 1 _ hf).mono ?_
          rintro e w1 ⟨rfl, g1⟩
          have G1 := hidd g1
          clear g1
          go_wp2_with fail
          refine (zz_empty a0 _ _ 2 _ hf).mono ?_
          rintro e w2 ⟨rfl, g2⟩
          have G2 := hidd (grown_trans G1.out g2)
          clear g2
          go_wp2_with fail
          refine (zz_empty a0 _ _ 1 _ hf).mono ?_
          rintro e w3 ⟨rfl, g3⟩
          have G3 := hidd (grown_trans G2.out g3)
          clear g3
          go_wp2
          go_ret
          exact ⟨rfl, G3.out⟩
      case neg =>
        replace hf : a0.toList.isEmpty = false := by simpa using hf
        cases a1 <;> cases a2
        all_goals
          go_enter Try.func3, Try.ntmps3
          go_wp2_with fail
          refine (bytes_yes a0 _ _ 1 w hs).mono ?_
          rintro e w' ⟨rfl, rfl⟩
          go_wp2_with fail
          refine (zz_pipe a0 _ _ _ hf).mono ?_
          rintro e w1 ⟨rfl, g1⟩
          have G1 := hidd g1
          clear g1
          go_wp2_with fail
          refine (zz_file a0 _ _ _ hf).mono ?_
          rintro e w2 ⟨rfl, g2⟩
          have G2 := hidd (grown_trans G1.out g2)
          clear g2
          go_wp2_with fail
          refine (zz_pipe a0 _ _ _ hf).mono ?_
          rintro e w3 ⟨rfl, g3⟩
          have G3 := hidd (grown_trans G2.out g3)
          clear g3
          go_wp2
          go_ret
          exact ⟨rfl, G3.out⟩
    case neg =>
      by_cases k2 : a3 = 2
      case pos =>
        subst k2
        by_cases hf : a0.toList.isEmpty = true
        case pos =>
          cases a1 <;> cases a2
          all_goals
            go_enter Try.func3, Try.ntmps3
            go_wp2_with fail
            refine (bytes_yes a0 _ _ 2 w hs).mono ?_
            rintro e w' ⟨rfl, rfl⟩
            go_wp2_with fail
            refine (zz_empty a0 _ _ 2 _ hf).mono ?_
            rintro e w1 ⟨rfl, g1⟩
            have G1 := hidd g1
            clear g1
            go_wp2_with fail
            refine (zz_empty a0 _ _ 1 _ hf).mono ?_
            rintro e w2 ⟨rfl, g2⟩
            have G2 := hidd (grown_trans G1.out g2)
            clear g2
            go_wp2_with fail
            refine (zz_empty a0 _ _ 2 _ hf).mono ?_
            rintro e w3 ⟨rfl, g3⟩
            have G3 := hidd (grown_trans G2.out g3)
            clear g3
            go_wp2
            go_ret
            exact ⟨rfl, G3.out⟩
        case neg =>
          replace hf : a0.toList.isEmpty = false := by simpa using hf
          cases a1 <;> cases a2
          all_goals
            go_enter Try.func3, Try.ntmps3
            go_wp2_with fail
            refine (bytes_yes a0 _ _ 2 w hs).mono ?_
            rintro e w' ⟨rfl, rfl⟩
            go_wp2_with fail
            refine (zz_file a0 _ _ _ hf).mono ?_
            rintro e w1 ⟨rfl, g1⟩
            have G1 := hidd g1
            clear g1
            go_wp2_with fail
            refine (zz_pipe a0 _ _ _ hf).mono ?_
            rintro e w2 ⟨rfl, g2⟩
            have G2 := hidd (grown_trans G1.out g2)
            clear g2
            go_wp2_with fail
            refine (zz_file a0 _ _ _ hf).mono ?_
            rintro e w3 ⟨rfl, g3⟩
            have G3 := hidd (grown_trans G2.out g3)
            clear g3
            go_wp2
            go_ret
            exact ⟨rfl, G3.out⟩
      case neg =>
        have q1 : (a3 != 1) = true := by simpa using k1
        have q2 : (a3 != 2) = true := by simpa using k2
        clear k1 k2
        go_enter Try.func3, Try.ntmps3
        go_wp2_with fail
        refine (bytes_yes a0 a1 a2 a3 w hs).mono ?_
        rintro e w' ⟨rfl, rfl⟩
        go_wp2
        go_ret
        exact ⟨rfl, Grown.refl _⟩

/-! ### THE ROW's STEP: WRITTEN OUT: LEAVE IT -/
set_option maxRecDepth 100000 in
theorem lifted (os : Os) (started : os.Started) (H : Type) (enc : TypeId × Value → H) :
    ReturnsInHanded {} Try.checked os 3 .any (Rows.fnDeliversCountsGrantsSpec.pre6 enc Try.prog Try.f3 Rows.fnDeliversCountsGrantsRow.domain false) (Rows.fnDeliversCountsGrantsSpec.post enc Try.prog Try.f3 false true false false) := by
  refine returnsInHanded_of_change (C := Try.checked) own started (by kernel_rfl) Try.func3
    (ChangeSpec.witness6 (enc := enc) (C := Try.checked) false ⟨#[], #[.string ByteArray.empty, .bool false, .bool false, .int .i64 0], []⟩ 8 (by kernel_rfl) (by kernel_rfl) (by kernel_rfl) (by kernel_rfl)) ?_
  intro W base args ds gs before hval0 hW hcnd _
  have hval : ∀ (j : Nat) t v, Try.f3.params[j]? = some t → args[j]? = some v → Value.okWide Try.prog W .any base t v := hval0
  have hW' := hW
  obtain ⟨p, q, hA0, hV, rfl, hfz, hnd⟩ := hW
  have hA : DataW.TrodAll enc Try.prog W 0 (fun _ => true) true Try.f3.params.toList args.toList ds p := hA0
  rw [Try.params3] at hA hval
  obtain ⟨v0, vs0, d0, ds0, p0, q0, hargs, rfl, rfl, h0, r0⟩ := trodAll_cons hA
  obtain ⟨v1, vs1, d1, ds1, p1, q1, rfl, rfl, rfl, h1, r1⟩ := trodAll_cons r0
  obtain ⟨v2, vs2, d2, ds2, p2, q2, rfl, rfl, rfl, h2, r2⟩ := trodAll_cons r1
  obtain ⟨v3, vs3, d3, ds3, p3, q3, rfl, rfl, rfl, h3, r3⟩ := trodAll_cons r2
  obtain ⟨rfl, rfl, rfl⟩ := trodAll_nil r3
  obtain rfl : args = #[v0, v1, v2, v3] := by cases args; simp_all
  obtain ⟨rfl, rfl⟩ := trodVars_none hV
  obtain ⟨a0, rfl, rfl, rfl, w0⟩ := open_string Try.underlying9 (hval 0 9 v0 rfl rfl) h0
  obtain ⟨a1, rfl, rfl, rfl⟩ := open_bool Try.underlying4 (hval 1 4 v1 rfl rfl) h1
  obtain ⟨a2, rfl, rfl, rfl⟩ := open_bool Try.underlying4 (hval 2 4 v2 rfl rfl) h2
  obtain ⟨a3, rfl, rfl, rfl, w3⟩ := open_int Try.underlying3 (hval 3 3 v3 rfl rfl) h3
  clear hA0 hval0
  simp only [List.append_nil] at hW'
  refine (walk a0 a1 a2 a3 w0 w3 W).mono fun e W' ⟨he, hg⟩ => ?_
  subst he
  exact ⟨_, rfl, post_of_same (pa := []) (pv := []) hW' (fun _ _ _ => (trodAll_cons_mk (shut_bool Try.underlying4 _) trodAll_mk0)) (fun sp _ => (trodAll_cons_mk (shut_string Try.underlying9 w0) (trodAll_cons_mk (shut_bool Try.underlying4 _) (trodAll_cons_mk (shut_bool Try.underlying4 _) (trodAll_cons_mk (shut_int Try.underlying3 w3) trodAll_mk0))))) (fun _ _ => rfl) rfl
    (hg.frame _) hg.2.1 (ok_one (by kernel_rfl) rfl (okWide_bool_mk Try.underlying4 _))⟩

theorem over : Rows.fnDeliversCountsGrantsRow.holds Try.pinned (OpenSpec.ofChange Rows.fnDeliversCountsGrantsSpec) :=
  OpenClaim.holds_of_wide 3 Try.f3 rfl rfl rfl rfl rfl rfl rfl ⟨rfl, rfl, rfl, rfl, rfl⟩ rfl rfl rfl rfl rfl (by kernel_rfl) Try.func3 (by kernel_rfl)
    (of_decide_eq_true (by kernel_rfl)) (by unfold Func.isWrapper; first | (rw [if_pos (by decide +kernel)]; kernel_rfl) | (rw [if_neg (by decide +kernel)]; exact ⟨rfl, rfl⟩))
    (fun os started H enc _ => lifted os started H enc)

/-- ████ THE STATEMENT ████ -/
theorem proved : Rows.FnDeliversCountsGrantsSaid :=
  over
end Go.Proofs.Qxb6605808a.fnDeliversCountsGrants
