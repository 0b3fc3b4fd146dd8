/-
  OURS. Both laws where the fragment is too long: they return true at once.
-/
import Derived.Test.Qxb6614518aDoorLaw4
namespace Go.Proofs.Qxb6614518aDoor
open Go Go.RowKit
set_option linter.unusedVariables false

set_option maxRecDepth 100000 in
set_option maxHeartbeats 4000000 in
theorem law4_big {w : World} {so fso : Option Addr} {n c fl fc : Nat} {ls : List (List Int)} {ys : List Int} {eT : Nat} {ea : Addr} (h : Args w so n c ls fso fl fc ys eT ea) (hbig : 1048576 < fl) (ep sq ty ln ms of : Int) :
    Calls Tryd.prog 4 #[.int .u64 ep, .int .u64 sq, .slice so n c, .int .u8 ty, .int .u32 ln, .int .u16 ms, .int .u32 of, .slice fso fl fc] w (Holds w) := by
  have H := hide h
  have hn := h.hn
  have hfl := h.hfl
  clear h
  have T : Hid (Holds w (.returned (.bool true)) w) := ⟨rfl, Below.refl _ _⟩
  go_enter Tryd.func4, Tryd.ntmps4
  go_wp2_with fail
  refine (bytes13_any H.out.rows hn hfl ep sq ty ln ms of).mono ?_
  rintro e w' ⟨b, rfl, rfl⟩
  cases b
  · go_wp2
    go_ret
    exact T.out
  · by_cases hg2 : 65536 < n
    · go_wp2
      go_ret
      exact T.out
    · go_wp2
      go_ret
      exact T.out

set_option maxRecDepth 100000 in
set_option maxHeartbeats 4000000 in
theorem law3_big {w : World} {so fso : Option Addr} {n c fl fc : Nat} {ls : List (List Int)} {ys : List Int} {eT : Nat} {ea : Addr} (h : Args w so n c ls fso fl fc ys eT ea) (hbig : 1048576 < fl) (ep sq ty ln ms of : Int) :
    Calls Tryd.prog 3 #[.int .u64 ep, .int .u64 sq, .slice so n c, .int .u8 ty, .int .u32 ln, .int .u16 ms, .int .u32 of, .slice fso fl fc] w (Holds w) := by
  have H := hide h
  have hn := h.hn
  have hfl := h.hfl
  clear h
  have T : Hid (Holds w (.returned (.bool true)) w) := ⟨rfl, Below.refl _ _⟩
  go_enter Tryd.func3, Tryd.ntmps3
  go_wp2_with fail
  refine (bytes5_any H.out.rows hn hfl ep sq ty ln ms of).mono ?_
  rintro e w' ⟨b, rfl, rfl⟩
  cases b
  · go_wp2
    go_ret
    exact T.out
  · by_cases hg2 : 65536 < n
    · go_wp2
      go_ret
      exact T.out
    · go_wp2
      go_ret
      exact T.out
end Go.Proofs.Qxb6614518aDoor
