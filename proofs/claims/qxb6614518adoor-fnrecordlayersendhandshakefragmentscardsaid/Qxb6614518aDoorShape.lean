/-
  OURS. The plain side of Fragments: where the records of a message lie.
-/
import Derived.Test.Qxb6614518aDoorPlain3
namespace Go.Proofs.Qxb6614518aDoor
open Go

/-- The least room a record of this message takes. -/
def Msg.least (M : Msg) : Nat := if M.body.length = 0 then 25 else 26

/-- How the datagrams behind a send lie: r0 records in the old last datagram, m in new ones; c0 is where the first new one begins in the body. -/
structure Sh (M : Msg) (ls out : List (List Int)) (k r0 c0 m : Nat) (inl : Bool) : Prop where
  hk : r0 + m = k
  len : out.length = ls.length + m
  ini : ∀ i, i + 1 < ls.length → ∃ l, out[i]? = some l ∧ ls[i]? = some l
  fr : ∀ i, i < m → out[ls.length + i]? = some (M.rc (r0 + i) (c0 + 1475 * i) (min (M.body.length - (c0 + 1475 * i)) 1475))
  go : ∀ i, i < m → r0 + i = 0 ∨ c0 + 1475 * i < M.body.length
  nol : ls.length = 0 → r0 = 0 ∧ inl = false
  z : r0 = 0 → c0 = 0 ∧ (inl = true → m = 0)
  lst : ∀ j, j + 1 = ls.length → ∃ l, ls[j]? = some l ∧ inl = decide (l.length + M.least ≤ 1500) ∧
    ((r0 = 0 ∧ out[j]? = some l) ∨ (r0 = 1 ∧ c0 = 1475 - l.length ∧ l.length + M.least ≤ 1500 ∧ out[j]? = some (l ++ M.rc 0 0 (min M.body.length c0))))

/-- How it ends. -/
def Fin3 (M : Msg) (k c0 m : Nat) (er nilv errv : Value) : Prop :=
  (er = nilv ∧ 1 ≤ k ∧ M.body.length ≤ c0 + 1475 * m ∧ M.sq + k ≤ 281474976710656) ∨
  (er = errv ∧ 281474976710655 < M.sq + k ∧ (k = 0 ∨ (c0 + 1475 * m < M.body.length ∧ M.sq + k = 281474976710656)))

theorem shape_of {M : Msg} {ls : List (List Int)} {k : Nat} {er nilv errv : Value} (h : Out M ls k er nilv errv) :
    ∃ r0 c0 m inl, Sh M ls (M.st ls k).1 k r0 c0 m inl ∧ Fin3 M k c0 m er nilv errv := by
  rcases full_or_fits M ls with hF | ⟨ini, l, hF⟩
  · have hs := st_full hF k h.1
    refine ⟨0, 0, k, false, ⟨by omega, ?_, ?_, ?_, ?_, fun _ => ⟨rfl, rfl⟩, fun _ => ⟨rfl, fun h => by cases h⟩, ?_⟩, ?_⟩
    · rw [hs]
      simp only
      rw [List.length_append, M.length_fr]
    · intro i hi
      refine ⟨ls[i]'(by omega), ?_, List.getElem?_eq_getElem (by omega)⟩
      rw [hs]
      simp only
      rw [List.getElem?_append_left (by omega)]
      exact List.getElem?_eq_getElem (by omega)
    · intro i hi
      rw [hs]
      simp only
      rw [List.getElem?_append_right (by omega), Nat.add_sub_cancel_left]
      exact M.fr_get 0 0 k i hi
    · intro i hi
      by_cases h0 : i = 0
      · exact .inl (by omega)
      · have := h.1 i (by omega) hi
        rw [st_full hF i (fun j h1 h2 => h.1 j h1 (by omega))] at this
        simp only at this
        exact .inr (by omega)
    · intro j hj
      obtain ⟨l, e⟩ : ∃ l, ls[j]? = some l := ⟨_, List.getElem?_eq_getElem (by omega)⟩
      have : 1500 < l.length + M.least := hF l (by rw [List.getLast?_eq_getElem?, ← hj]; exact e)
      refine ⟨l, e, ?_, .inl ⟨rfl, ?_⟩⟩
      · rw [eq_comm, decide_eq_false_iff_not]
        omega
      · rw [hs]
        simp only
        rw [List.getElem?_append_left (by omega)]
        exact e
    · have h2 := h.2
      rw [hs] at h2
      simp only at h2
      rcases h2 with ⟨a, b, c, d⟩ | ⟨a, b, c⟩
      · exact .inl ⟨a, b, by omega, d⟩
      · exact .inr ⟨a, b, by omega⟩
  · have hll : ls.length = ini.length + 1 := by rw [hF.eq]; simp
    have hr := hF.room
    have hle := hF.le
    have hlj : ∀ j, j + 1 = ls.length → ls[j]? = some l := by
      intro j hj
      rw [hF.eq, List.getElem?_append_right (by omega), show j - ini.length = 0 by omega]
      rfl
    cases k with
    | zero =>
      refine ⟨0, 0, 0, true, ⟨rfl, rfl, ?_, (fun i hi => by omega), (fun i hi => by omega), (fun h0 => by omega), fun _ => ⟨rfl, fun _ => rfl⟩, ?_⟩, ?_⟩
      · intro i hi
        obtain ⟨x, e⟩ : ∃ x, ls[i]? = some x := ⟨_, List.getElem?_eq_getElem (by omega)⟩
        exact ⟨x, e, e⟩
      · intro j hj
        refine ⟨l, hlj j hj, ?_, .inl ⟨rfl, hlj j hj⟩⟩
        rw [eq_comm, decide_eq_true_iff]
        exact hr
      · rcases h.2 with ⟨a, b, c, d⟩ | ⟨a, b, c⟩
        · omega
        · exact .inr ⟨a, b, .inl rfl⟩
    | succ m =>
      have hs := st_fits hF m h.1
      have hn0 : M.n0 l = min M.body.length (1475 - l.length) := rfl
      refine ⟨1, 1475 - l.length, m, true, ⟨by omega, ?_, ?_, ?_, ?_, (fun h0 => by omega), (fun h0 => by cases h0), ?_⟩, ?_⟩
      · rw [hs]
        simp only [List.length_append, List.length_cons, List.length_nil, M.length_fr]
        omega
      · intro i hi
        obtain ⟨x, e⟩ : ∃ x, ini[i]? = some x := ⟨_, List.getElem?_eq_getElem (by omega)⟩
        refine ⟨x, ?_, by rw [hF.eq, List.getElem?_append_left (by omega)]; exact e⟩
        rw [hs]
        simp only
        rw [List.append_assoc, List.getElem?_append_left (by omega)]
        exact e
      · intro i hi
        rw [hs]
        simp only
        rw [List.getElem?_append_right (by simp; omega), show ls.length + i - (ini ++ [l ++ M.rc 0 0 (M.n0 l)]).length = i by simp; omega]
        exact M.fr_get 1 (1475 - l.length) m i hi
      · intro i hi
        have := h.1 (i + 1) (by omega) (by omega)
        rw [st_fits hF i (fun j h1 h2 => h.1 j h1 (by omega))] at this
        simp only at this
        exact .inr (by omega)
      · intro j hj
        refine ⟨l, hlj j hj, ?_, .inr ⟨rfl, rfl, hr, ?_⟩⟩
        · rw [eq_comm, decide_eq_true_iff]
          exact hr
        · rw [hs]
          simp only
          rw [List.append_assoc, List.getElem?_append_right (by omega), show j - ini.length = 0 by omega, ← hn0]
          rfl
      · have h2 := h.2
        rw [hs] at h2
        simp only at h2
        rcases h2 with ⟨a, b, c, d⟩ | ⟨a, b, c⟩
        · exact .inl ⟨a, b, by omega, d⟩
        · exact .inr ⟨a, b, by omega⟩
end Go.Proofs.Qxb6614518aDoor
