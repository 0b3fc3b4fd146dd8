/-
  OURS. The arguments opened, the listed variable read: what both rows of this seat share.
-/
import Derived.Test.Qxb6614518aDoorExtends
import Derived.ProofKit
import Derived.SizedLaws
import Derived.LaidMore
import Derived.ShutString
import Derived.ChangeOld
import Derived.Deep.Matrix
import Derived.Stop.LaidErr
import Derived.Stop.Joined
namespace Go.Proofs.Qxb6614518aDoor
open Go Go.ChangeShapes Go.WideShapes Go.ChangeAt Go.RowKit Go.Deep
set_option linter.unusedVariables false

theorem own : ownKnob Tryd.prog.godebug = none := by kernel_rfl
theorem laidOut : laidOutB Tryd.prog = true := by kernel_rfl
theorem Tryd.cells26 : Tryd.prog.cellsOf 26 = 1 := by kernel_rfl
theorem Tryd.cells5 : Tryd.prog.cellsOf 5 = 1 := by kernel_rfl
theorem Tryd.bytes26 : Tryd.prog.bytesOf 26 = 24 := by kernel_rfl
theorem Tryd.bytes5 : Tryd.prog.bytesOf 5 = 1 := by kernel_rfl
theorem reach_eq : reachBytes = 140737488351232 := rfl

/-- The listed variable. -/
def laid1 : List (String × DataW Unit) := Rows.fnRecordLayerSendHandshakeFreshAndFullRow.laid
def vErr : String := (laid1.map (·.1)).headD ""
def nErr : String := match laid1 with
  | (_, .iface nm _) :: _ => nm
  | _ => ""
theorem gErr : Tryd.prog.globalNamed vErr = some 1 := by kernel_rfl
theorem tErr : (Tryd.prog.globals[1]?).map (·.type) = some 33 := by kernel_rfl
theorem Tryd.cells96 : Tryd.prog.cellsOf 96 = 1 := by kernel_rfl
theorem Tryd.cells9 : Tryd.prog.cellsOf 9 = 1 := by kernel_rfl
theorem row76 (u : TypeId) (h : Tryd.prog.typeName? 3 u = some nErr) : u = 76 :=
  typeName_ptr_named (nm := "errors.errorString") (by kernel_rfl) (by kernel_rfl) (by decide) u (h.trans (congrArg some (by decide)))

/-- The door's own heap meets the condition. -/
theorem door_met (os : Os) (args : Array Value) : laidMetH Tryd.prog laid1 ((World.doorLaid Tryd.prog 400 os).forCall (fun _ _ => 0) ⟨#[], args, []⟩).memory :=
  laidMetH_of_parts3 (fuel := 8) (laidMet_of_run' 8 (by kernel_rfl) (by kernel_rfl)) (by kernel_rfl) (by kernel_rfl)

/-- What the condition gives. -/
theorem err_of_laid {W : World} (h : laidMetH Tryd.prog laid1 W) : ∃ a, W.var? Tryd.prog vErr = some #[.iface 76 (.pointer (some a))] := by
  rw [MakeChecks.laidMetH_plain _ _ _ (by kernel_rfl)] at h
  obtain ⟨a, s, hv, _⟩ := laid_sentinel h gErr tErr Tryd.underlying33 row76 Tryd.underlying76 Tryd.underlying96 rfl rfl Tryd.underlying9 Tryd.cells96 Tryd.cells9
  exact ⟨a, hv⟩

theorem weights_in {H : Type} {P : Program} {e : TypeId} : ∀ {l : List (DataW H)} {d : DataW H}, d ∈ l → ∀ n ∈ d.weights P e, n ∈ DataW.weightsAll P e l
  | d' :: r, d, hd, n, hn => by
    simp only [DataW.weightsAll, List.mem_append]
    rcases List.mem_cons.1 hd with rfl | h
    · exact .inl hn
    · exact .inr (weights_in h n hn)

/-- The form's own reach, of a row inside. -/
theorem inner_sized {H : Type} {P : Program} {ts : List TypeId} {ds : List (DataW H)} (h : (DataW.weightsEach P ts ds).all (· ≤ reachBytes) = true) {j : Nat} {t e q : TypeId} {elems spare e' sp' : List (DataW H)}
    (ht : ts[j]? = some t) (hd : ds[j]? = some (.slice elems spare)) (hu : P.underlying t = some (.slice e)) (hu2 : P.underlying e = some (.slice q)) (hx : DataW.slice e' sp' ∈ elems) : (e'.length + sp'.length) * P.bytesOf q ≤ reachBytes := by
  refine of_decide_eq_true (List.all_eq_true.1 h _ (DataW.weights_mem_each ht hd _ ?_))
  simp only [DataW.weights, hu, List.mem_cons, List.mem_append]
  exact .inr (.inl (weights_in hx _ (by simp [DataW.weights, hu2])))

/-- A slice of slices of bytes that came in. -/
theorem open_rows {H : Type} {enc : TypeId × Value → H} {W : World} {a : Option Addr} {len cap : Nat} {d : DataW H} {p : List MemPlace} {ts : List TypeId} {ds : List (DataW H)} {j : Nat}
    (hsz : (DataW.weightsEach Tryd.prog ts ds).all (· ≤ reachBytes) = true) (ht : ts[j]? = some 23) (hd : ds[j]? = some d)
    (h : DataW.Trod enc Tryd.prog W 0 (fun _ => true) true 23 (.slice a len cap) d p) : ∃ ls, RowsAt W a len cap ls ∧ len ≤ 140737488355328 := by
  obtain ⟨fuel, hf⟩ := h
  rcases open_int_rows Tryd.underlying23 Tryd.underlying26 Tryd.underlying5 Tryd.cells26 Tryd.cells5 hf with ⟨hcs, _⟩ | ⟨a', len', cap', A, L, C, Z, hcs, _, hl, _, hx, hrows⟩
  · simp [Value.cells] at hcs
    obtain ⟨rfl, rfl, rfl⟩ := hcs
    exact ⟨[], ⟨rfl, (fun _ => ⟨rfl, rfl⟩), fun i l hl => by simp at hl⟩, by omega⟩
  · simp [Value.cells] at hcs
    obtain ⟨rfl, rfl, rfl⟩ := hcs
    simp only [Prod.mk.injEq] at hx
    obtain ⟨hx, _⟩ := hx
    subst hx
    have h24 := sized_slice hsz ht hd Tryd.underlying23
    simp only [List.length_map, List.length_range, Tryd.bytes26, reach_eq] at h24
    refine ⟨(List.range len).map fun r => (Z r).take (L r), ⟨by simp, (fun h => by cases h), fun i l hl' => ?_⟩, by omega⟩
    have hi := (List.getElem?_eq_some_iff.1 hl').1
    simp at hi
    have hle : l = (Z i).take (L i) := by simpa [hi] using hl'.symm
    subst hle
    obtain ⟨r1, r2, r3, r4, r5, r6, r7⟩ := hrows i (by omega)
    obtain ⟨gb, go, gs⟩ := a'
    have hgs : gs = none := by
      have := World.cell?_spot (hrows 0 (by omega)).1
      simpa [Addr.add] using this
    subst hgs
    have hin : A i = none ∨ C i ≤ 140737488351232 := by
      cases hA : A i with
      | none => exact .inl rfl
      | some a' =>
        have hin := inner_sized hsz ht hd Tryd.underlying23 Tryd.underlying26 (e' := lits .u8 ((Z i).take (L i))) (sp' := lits .u8 ((Z i).drop (L i)))
          (List.mem_map.2 ⟨i, List.mem_range.2 hi, by simp [intRow, hA]⟩)
        simp only [lits, List.length_map, List.length_take, List.length_drop, Tryd.bytes5, reach_eq] at hin
        exact .inr (by omega)
    refine ⟨gb, go, A i, L i, C i, rfl, by rw [← add_plain]; exact r1, ⟨by simp; omega, fun h => ?_, fun a' ha jj z hz => ?_⟩, ?_, r2⟩
    · have := r6 h; omega
    · have hj := (List.getElem?_eq_some_iff.1 hz).1
      simp at hj
      rw [(r7 a' ha).2 jj (by omega)]
      rw [List.getElem?_take, if_pos (by omega)] at hz
      rw [List.getD_eq_getElem?_getD, hz]
      rfl
    · rcases hin with h | h
      · have := r6 h; omega
      · omega

/-- A slice of bytes that came in. -/
theorem open_bytes {H : Type} {enc : TypeId × Value → H} {W : World} {a : Option Addr} {len cap : Nat} {d : DataW H} {p : List MemPlace} {ts : List TypeId} {ds : List (DataW H)} {j : Nat}
    (hsz : (DataW.weightsEach Tryd.prog ts ds).all (· ≤ reachBytes) = true) (ht : ts[j]? = some 26) (hd : ds[j]? = some d)
    (h : DataW.Trod enc Tryd.prog W 0 (fun _ => true) true 26 (.slice a len cap) d p) : ∃ ys, Src W a len cap ys ∧ len ≤ 140737488355328 := by
  obtain ⟨fuel, hf⟩ := h
  rcases open_ints Tryd.underlying26 Tryd.underlying5 Tryd.cells5 hf with ⟨hcs, _⟩ | ⟨x, l, c, zs, hcs, _, hl, hm, hz, hx, hcell, hwz⟩
  · simp [Value.cells] at hcs
    obtain ⟨rfl, rfl, rfl⟩ := hcs
    exact ⟨[], ⟨rfl, (fun _ => ⟨rfl, rfl⟩), fun a h => by cases h⟩, by omega⟩
  · simp [Value.cells] at hcs
    obtain ⟨rfl, rfl, rfl⟩ := hcs
    simp only [if_true] at hz
    simp only [Prod.mk.injEq] at hx
    obtain ⟨hx, _⟩ := hx
    subst hx
    have h1 := sized_slice hsz ht hd Tryd.underlying26
    simp only [lits, List.length_map, List.length_take, List.length_drop, Tryd.bytes5, reach_eq] at h1
    refine ⟨zs.take len, ⟨by simp; omega, (fun h => by cases h), fun a' ha jj z hz' => ?_⟩, by omega⟩
    cases ha
    have hj := (List.getElem?_eq_some_iff.1 hz').1
    simp at hj
    rw [hcell jj (by omega)]
    rw [List.getElem?_take, if_pos (by omega)] at hz'
    rw [List.getD_eq_getElem?_getD, hz']
    rfl
end Go.Proofs.Qxb6614518aDoor
