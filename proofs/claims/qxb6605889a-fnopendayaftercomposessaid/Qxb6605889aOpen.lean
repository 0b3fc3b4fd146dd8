/-
  OURS. A slice of pairs that came in.
-/
import Derived.Test.Qxb6605889aNth
import Derived.Deep.SlicePairs
import Derived.ProofKit
import Derived.OpenShut
import Derived.ChangeOld
namespace Go.Proofs.Qxb6605889a
open Go Go.RowKit Go.ChangeShapes Go.WideShapes Go.ChangeAt
set_option linter.unusedVariables false

theorem cells26 : Try.prog.cellsOf 26 = 2 := by kernel_rfl
theorem cells3 : Try.prog.cellsOf 3 = 1 := by kernel_rfl

theorem open_prs {H : Type} {enc : TypeId × Value → H} {W : World} {a : Option Addr} {len cap fuel : Nat} {x : DataW H × List MemPlace}
    (h : DataW.trod enc Try.prog W 0 (fun _ => true) true fuel 22 [.slice a len cap] = some x) : ∃ xs, Prs W a len xs ∧ (a = none → len = 0 ∧ cap = 0) ∧ len ≤ maxLen := by
  rcases Deep.open_slice_pairs Try.underlying22 Try.underlying26 cells26 rfl rfl cells3 cells3 h with ⟨hcs, _⟩ | ⟨ad, l, c, m, n, V0, V1, D0, D1, P0, P1, hcs, _, hl, hm, hmm, _, hcell⟩
  · simp at hcs
    obtain ⟨rfl, rfl, rfl⟩ := hcs
    exact ⟨[], ⟨rfl, fun i p hp => by simp at hp⟩, fun _ => ⟨rfl, rfl⟩, by unfold maxLen; omega⟩
  · simp at hcs
    obtain ⟨rfl, rfl, rfl⟩ := hcs
    have hlm : len ≤ m := by rw [hmm, if_pos rfl]; exact hl
    refine ⟨(List.range len).map fun i => ((intOf (V0 i)), (intOf (V1 i))), ⟨by simp, fun i p hp => ?_⟩, (fun h => by cases h), by omega⟩
    obtain ⟨hi, rfl⟩ : i < len ∧ (intOf (V0 i), intOf (V1 i)) = p := by
      rw [List.getElem?_map, Option.map_eq_some_iff] at hp
      obtain ⟨j, hj, e⟩ := hp
      have hi := (List.getElem?_eq_some_iff.1 hj).1
      rw [List.length_range] at hi
      rw [List.getElem?_range hi] at hj
      cases hj
      exact ⟨hi, e⟩
    obtain ⟨h1, h2, h3, h4⟩ := hcell i (by omega)
    obtain ⟨z0, e0, _, _⟩ := DataW.trod_int Try.underlying3 h3
    obtain ⟨z1, e1, _, _⟩ := DataW.trod_int Try.underlying3 h4
    simp at e0 e1
    have hs : ad.spot = none := by
      have := World.cell?_spot (hcell 0 (by omega)).1
      simpa [Addr.add] using this
    obtain ⟨b, o, spot⟩ := ad
    simp only at hs
    subst hs
    rw [Addr.add_mid] at h1 h2
    exact ⟨b, o, rfl, by rw [h1, e0]; rfl, by rw [Nat.add_assoc, h2, e1]; rfl⟩
end Go.Proofs.Qxb6605889a
