/-
  OURS. The plain side: how many records a message takes and how many are sent.
-/
import Derived.Test.Qxb6614518aDoorPlain2
namespace Go.Proofs.Qxb6614518aDoor
open Go

def needN (L : Nat) : Nat := if L = 0 then 1 else (L + 1474) / 1475
def sentN (L : Nat) (sq : Int) : Nat := if sq ≤ 281474976710655 then min (needN L) (281474976710656 - sq).toNat else 0

/-- How a call of sendHandshake may end after k records. -/
def Out (M : Msg) (ref : List (List Int)) (k : Nat) (er nilv errv : Value) : Prop :=
  (∀ j, 1 ≤ j → j < k → (M.st ref j).2 < M.body.length) ∧
    ((er = nilv ∧ 1 ≤ k ∧ (M.st ref k).2 = M.body.length ∧ M.sq + k ≤ 281474976710656) ∨
     (er = errv ∧ 281474976710655 < M.sq + k ∧ (k = 0 ∨ ((M.st ref k).2 < M.body.length ∧ M.sq + k = 281474976710656))))

theorem need_facts (L : Nat) : 1 ≤ needN L ∧ needN L ≤ L + 1 ∧ ((L = 0 ∧ needN L = 1) ∨ (0 < L ∧ 1475 * (needN L - 1) < L ∧ L ≤ 1475 * needN L)) := by
  unfold needN
  split <;> omega

theorem sent_facts (L : Nat) (sq : Int) : sentN L sq ≤ needN L ∧ (281474976710655 < sq → sentN L sq = 0) ∧ (sq ≤ 281474976710655 → sq + sentN L sq ≤ 281474976710656 ∧ (needN L ≤ 281474976710656 - sq → sentN L sq = needN L) ∧ (281474976710656 - sq < needN L → (sentN L sq : Int) = 281474976710656 - sq)) := by
  unfold sentN
  have := (need_facts L).1
  split
  · omega
  · omega

theorem out_full {M : Msg} {ref : List (List Int)} (hF : Full M ref) {k : Nat} {er nilv errv : Value} (h : Out M ref k er nilv errv) :
    k = sentN M.body.length M.sq ∧ ((er = nilv ∧ sentN M.body.length M.sq = needN M.body.length) ∨ (er = errv ∧ sentN M.body.length M.sq < needN M.body.length)) := by
  have hs := st_full hF k h.1
  have hp : 2 ≤ k → 1475 * (k - 1) < M.body.length := fun hk => by
    have := h.1 (k - 1) (by omega) (by omega)
    rw [st_full hF (k - 1) (fun j h1 h2 => h.1 j h1 (by omega))] at this
    simp only at this
    omega
  have hn := need_facts M.body.length
  have hsn := sent_facts M.body.length M.sq
  have h2 := h.2
  rw [hs] at h2
  simp only at h2
  rcases h2 with ⟨he, h1, h2, h3⟩ | ⟨he, h1, h2⟩
  · have : k = needN M.body.length := by omega
    have : k = sentN M.body.length M.sq := by omega
    exact ⟨this, .inl ⟨he, by omega⟩⟩
  · have : k = sentN M.body.length M.sq := by omega
    exact ⟨this, .inr ⟨he, by omega⟩⟩

theorem out_any {M : Msg} {ref : List (List Int)} {k : Nat} {er nilv errv : Value} (h : Out M ref k er nilv errv) :
    (M.sq ≤ 281474976710655 → 1 ≤ k ∧ M.sq + k ≤ 281474976710656) ∧ (281474976710655 < M.sq → k = 0 ∧ er = errv) := by
  rcases h.2 with ⟨he, h1, h2, h3⟩ | ⟨he, h1, h2⟩
  · omega
  · refine ⟨fun _ => by omega, fun _ => ⟨by omega, he⟩⟩

theorem out_bound {M : Msg} {ref : List (List Int)} {k : Nat} {er nilv errv : Value} (h : Out M ref k er nilv errv) : k ≤ M.body.length + 2 := by
  rcases full_or_fits M ref with hF | ⟨ini, l, hF⟩
  · have h1 := (out_full hF h).1
    have h2 := need_facts M.body.length
    have h3 := sent_facts M.body.length M.sq
    omega
  · by_cases hk : k ≤ 2
    · omega
    · obtain ⟨j, rfl⟩ : ∃ j, k = j + 1 + 1 := ⟨k - 2, by omega⟩
      have hs := st_fits hF j (fun i h1 h2 => h.1 i h1 (by omega))
      have h1 := h.1 (j + 1) (by omega) (by omega)
      rw [hs] at h1
      simp only at h1
      omega
end Go.Proofs.Qxb6614518aDoor
