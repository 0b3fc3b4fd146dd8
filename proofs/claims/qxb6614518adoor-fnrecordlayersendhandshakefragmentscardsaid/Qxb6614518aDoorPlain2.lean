/-
  OURS. The plain side: the closed form of what sendHandshake leaves.
-/
import Derived.Test.Qxb6614518aDoorPlain
namespace Go.Proofs.Qxb6614518aDoor
open Go

/-- The records i = 0 .. k - 1 of a message whose first record is number a and begins at body place c, each in a datagram of its own. -/
def Msg.fr (M : Msg) (a c k : Nat) : List (List Int) := (List.range k).map fun i => M.rc (a + i) (c + 1475 * i) (min (M.body.length - (c + 1475 * i)) 1475)

theorem Msg.fr_succ (M : Msg) (a c k : Nat) : M.fr a c (k + 1) = M.fr a c k ++ [M.rc (a + k) (c + 1475 * k) (min (M.body.length - (c + 1475 * k)) 1475)] := by
  simp [Msg.fr, List.range_succ]

theorem Msg.length_fr (M : Msg) (a c k : Nat) : (M.fr a c k).length = k := by simp [Msg.fr]

theorem Msg.fr_get (M : Msg) (a c k i : Nat) (hi : i < k) : (M.fr a c k)[i]? = some (M.rc (a + i) (c + 1475 * i) (min (M.body.length - (c + 1475 * i)) 1475)) := by
  simp [Msg.fr, hi]

/-- No room in the last datagram for this message. -/
def Full (M : Msg) (ref : List (List Int)) : Prop := ∀ l, ref.getLast? = some l → 1500 < l.length + (if M.body.length = 0 then 25 else 26)

theorem room_full {M : Msg} {ref : List (List Int)} (h : Full M ref) : room ref = 1475 := by
  unfold room
  split
  · rfl
  · rename_i l hl
    have := h l hl
    split at this <;> (rw [if_neg (by omega)])

theorem step_full {M : Msg} {ref : List (List Int)} (h : Full M ref) {r : List Int} (hr : 25 + min M.body.length 1475 ≤ r.length) : step ref r = ref ++ [r] := by
  unfold step
  split
  · rfl
  · rename_i l hl
    have := h l hl
    split at this
    · rw [if_neg (by omega)]
    · rw [if_neg (by omega)]

theorem room_1500 {ls : List (List Int)} {r : List Int} (hr : r.length = 1500) : room (ls ++ [r]) = 1475 := by
  simp [room, hr]

theorem step_1500 {ls : List (List Int)} {r s : List Int} (hr : r.length = 1500) (hs : 1 ≤ s.length) : step (ls ++ [r]) s = ls ++ [r] ++ [s] := by
  simp only [step, List.getLast?_concat]
  rw [if_neg (by omega)]

/-- The last of the records so far fills its datagram, if the message goes on. -/
theorem Msg.fr_full (M : Msg) (a c k : Nat) (h : c + 1475 * (k + 1) < M.body.length + 1) : (M.rc (a + k) (c + 1475 * k) (min (M.body.length - (c + 1475 * k)) 1475)).length = 1500 := by
  rw [M.length_rc _ _ _ (by omega)]
  omega

theorem st_full {M : Msg} {ref : List (List Int)} (h : Full M ref) : ∀ k, (∀ j, 1 ≤ j → j < k → (M.st ref j).2 < M.body.length) → M.st ref k = (ref ++ M.fr 0 0 k, min M.body.length (1475 * k))
  | 0, _ => by simp [Msg.st, Msg.fr]
  | k + 1, hj => by
    have ih := st_full h k (fun j h1 h2 => hj j h1 (by omega))
    have hlt : k = 0 ∨ (M.st ref k).2 < M.body.length := by
      by_cases h0 : k = 0
      · exact .inl h0
      · exact .inr (hj k (by omega) (by omega))
    rw [Msg.st, ih]
    simp only
    rw [ih] at hlt
    simp only at hlt
    cases k with
    | zero =>
      have e0' : M.fr 0 0 0 = [] := by simp [Msg.fr]
      have e0 : ref ++ M.fr 0 0 0 = ref := by rw [e0', List.append_nil]
      rw [e0, room_full h, Msg.fr_succ, e0', step_full h (by rw [M.length_rc _ _ _ (by omega)]; omega)]
      simp only [Nat.mul_zero, Nat.min_zero, Nat.sub_zero, Nat.zero_add, List.nil_append]

    | succ k =>
      have hlt' : 1475 * (k + 1) < M.body.length := by omega
      have ho : min M.body.length (1475 * (k + 1)) = 1475 * (k + 1) := by omega
      have hq : 0 + 1475 * (k + 1) < M.body.length + 1 := Nat.lt_of_le_of_lt (Nat.le_of_eq (Nat.zero_add _)) (Nat.lt_succ_of_lt hlt')
      have h15 := M.fr_full 0 0 k hq
      have hroom : room (ref ++ M.fr 0 0 (k + 1)) = 1475 := by rw [Msg.fr_succ, ← List.append_assoc]; exact room_1500 h15
      rw [hroom, ho]
      refine Prod.ext ?_ ?_
      · show step (ref ++ M.fr 0 0 (k + 1)) _ = ref ++ M.fr 0 0 (k + 1 + 1)
        rw [M.fr_succ 0 0 (k + 1), M.fr_succ 0 0 k, ← List.append_assoc, step_1500 h15 (by rw [M.length_rc _ _ _ (by omega)]; omega)]
        simp
      · show 1475 * (k + 1) + min (M.body.length - 1475 * (k + 1)) 1475 = min M.body.length (1475 * (k + 1 + 1))
        omega

/-- There is room in the last datagram, l. -/
structure Fits (M : Msg) (ref : List (List Int)) (ini : List (List Int)) (l : List Int) : Prop where
  eq : ref = ini ++ [l]
  room : l.length + (if M.body.length = 0 then 25 else 26) ≤ 1500

theorem Fits.le {M : Msg} {ref ini : List (List Int)} {l : List Int} (h : Fits M ref ini l) : l.length ≤ 1475 := by
  have := h.room
  split at this <;> omega

/-- How much of the body goes behind l. -/
def Msg.n0 (M : Msg) (l : List Int) : Nat := min M.body.length (1475 - l.length)

theorem st_fits {M : Msg} {ref ini : List (List Int)} {l : List Int} (h : Fits M ref ini l) : ∀ k, (∀ j, 1 ≤ j → j < k + 1 → (M.st ref j).2 < M.body.length) →
    M.st ref (k + 1) = (ini ++ [l ++ M.rc 0 0 (M.n0 l)] ++ M.fr 1 (1475 - l.length) k, min M.body.length (1475 - l.length + 1475 * k))
  | 0, _ => by
    have hr := h.room
    have hle := h.le
    have hn : min (M.body.length - 0) (room ref) = M.n0 l := by
      rw [h.eq, Msg.n0]
      simp only [room, List.getLast?_concat]
      split at hr
      · omega
      · rw [if_pos (by omega)]; omega
    have hs : step ref (M.rc 0 0 (M.n0 l)) = ini ++ [l ++ M.rc 0 0 (M.n0 l)] := by
      rw [h.eq]
      simp only [step, List.getLast?_concat]
      rw [if_pos (by rw [M.length_rc _ _ _ (by unfold Msg.n0; omega)]; unfold Msg.n0; split at hr <;> omega)]
      simp
    rw [Msg.st]
    show (step ref (M.rc 0 0 (min (M.body.length - 0) (room ref))), 0 + min (M.body.length - 0) (room ref)) = _
    rw [hn, hs]
    simp [Msg.fr, Msg.n0]
  | k + 1, hj => by
    have ih := st_fits h k (fun j h1 h2 => hj j h1 (by omega))
    have hlt := hj (k + 1) (by omega) (by omega)
    have hle := h.le
    rw [Msg.st, ih]
    simp only
    rw [ih] at hlt
    simp only at hlt
    have ho : min M.body.length (1475 - l.length + 1475 * k) = 1475 - l.length + 1475 * k := by omega
    rw [ho]
    obtain ⟨pre, r, hpr, h15⟩ : ∃ pre r, ini ++ [l ++ M.rc 0 0 (M.n0 l)] ++ M.fr 1 (1475 - l.length) k = pre ++ [r] ∧ r.length = 1500 := by
      cases k with
      | zero => exact ⟨ini, l ++ M.rc 0 0 (M.n0 l), by simp [Msg.fr], by rw [List.length_append, M.length_rc _ _ _ (by unfold Msg.n0; omega)]; unfold Msg.n0; omega⟩
      | succ k => exact ⟨_, _, by rw [Msg.fr_succ, ← List.append_assoc], M.fr_full _ _ k (by omega)⟩
    have hroom : Go.Proofs.Qxb6614518aDoor.room (ini ++ [l ++ M.rc 0 0 (M.n0 l)] ++ M.fr 1 (1475 - l.length) k) = 1475 := by rw [hpr]; exact room_1500 h15
    rw [hroom]
    refine Prod.ext ?_ ?_
    · show step (ini ++ [l ++ M.rc 0 0 (M.n0 l)] ++ M.fr 1 (1475 - l.length) k) _ = _
      rw [M.fr_succ 1 _ k, ← List.append_assoc, hpr, step_1500 h15 (by rw [M.length_rc _ _ _ (by omega)]; omega)]
      rw [Nat.add_comm 1 k]
    · show 1475 - l.length + 1475 * k + min (M.body.length - (1475 - l.length + 1475 * k)) 1475 = min M.body.length (1475 - l.length + 1475 * (k + 1))
      omega

/-- full or fits. -/
theorem full_or_fits (M : Msg) (ref : List (List Int)) : Full M ref ∨ ∃ ini l, Fits M ref ini l := by
  cases hl : ref.getLast? with
  | none => exact .inl (fun l h => by rw [hl] at h; cases h)
  | some l =>
    by_cases hc : l.length + (if M.body.length = 0 then 25 else 26) ≤ 1500
    · refine .inr ⟨ref.dropLast, l, ?_, hc⟩
      have hne : ref ≠ [] := fun e => by subst e; simp at hl
      rw [List.getLast?_eq_some_getLast hne] at hl
      have h2 := Option.some.inj hl
      rw [← h2]
      exact (List.dropLast_concat_getLast hne).symm
    · exact .inl (fun l' h => by rw [hl] at h; obtain rfl := Option.some.inj h; omega)
end Go.Proofs.Qxb6614518aDoor
