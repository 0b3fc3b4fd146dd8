/-
  OURS. The plain side: the open day after a day.
-/
import Derived.Test.Qxb6605889aRows
namespace Go.Proofs.Qxb6605889a
open Go

/-- openDayAfter. -/
def oda : List (Int × Int) → Int → Int → Int
  | [], c, n => c + n
  | p :: rs, c, n => if p.2 ≤ c then oda rs c n else if 0 < p.1 - c - 1 then (if n ≤ p.1 - c - 1 then c + n else oda rs p.2 (n - (p.1 - c - 1))) else oda rs p.2 n

/-- How many days of a run lie from d + 1 to a. -/
def ov (p : Int × Int) (d a : Int) : Int := if max p.1 (d + 1) ≤ min p.2 a then min p.2 a - max p.1 (d + 1) + 1 else 0

def ovs (d a : Int) : List (Int × Int) → Int
  | [] => 0
  | p :: rs => ov p d a + ovs d a rs

def tot : List (Int × Int) → Int
  | [] => 0
  | p :: rs => (p.2 - p.1 + 1) + tot rs

/-- Runs as zzRunsOK takes them. -/
def Good : List (Int × Int) → Prop
  | [] => True
  | p :: rs => -67108864 ≤ p.1 ∧ p.2 ≤ 67108864 ∧ p.1 ≤ p.2 ∧ (∀ q ∈ rs, p.2 + 1 < q.1) ∧ Good rs

theorem oda_gt : ∀ (rs : List (Int × Int)) (c n : Int), 1 ≤ n → c < oda rs c n
  | [], c, n, h => by simp only [oda]; omega
  | p :: rs, c, n, h => by
    simp only [oda]
    split
    · exact oda_gt rs c n h
    · split
      · split
        · omega
        · have := oda_gt rs p.2 (n - (p.1 - c - 1)) (by omega); omega
      · have := oda_gt rs p.2 n h; omega

theorem oda_skip {p : Int × Int} (rs : List (Int × Int)) {c : Int} (n : Int) (h : p.2 ≤ c) : oda (p :: rs) c n = oda rs c n := by rw [oda, if_pos h]
theorem oda_stop {p : Int × Int} (rs : List (Int × Int)) {c n : Int} (h : ¬ p.2 ≤ c) (h2 : 0 < p.1 - c - 1) (h3 : n ≤ p.1 - c - 1) : oda (p :: rs) c n = c + n := by rw [oda, if_neg h, if_pos h2, if_pos h3]
theorem oda_go {p : Int × Int} (rs : List (Int × Int)) {c n : Int} (h : ¬ p.2 ≤ c) (h2 : 0 < p.1 - c - 1) (h3 : ¬ n ≤ p.1 - c - 1) : oda (p :: rs) c n = oda rs p.2 (n - (p.1 - c - 1)) := by rw [oda, if_neg h, if_pos h2, if_neg h3]
theorem oda_in {p : Int × Int} (rs : List (Int × Int)) {c : Int} (n : Int) (h : ¬ p.2 ≤ c) (h2 : ¬ 0 < p.1 - c - 1) : oda (p :: rs) c n = oda rs p.2 n := by rw [oda, if_neg h, if_neg h2]

theorem oda_comp : ∀ (rs : List (Int × Int)), Good rs → ∀ (c m n : Int), 1 ≤ m → 1 ≤ n → oda rs c (m + n) = oda rs (oda rs c m) n
  | [], _, c, m, n, h, k => by simp only [oda]; omega
  | p :: rs, hg, c, m, n, h, k => by
    obtain ⟨_, _, hp, _, hg'⟩ := hg
    by_cases h1 : p.2 ≤ c
    · have := oda_gt rs c m h
      rw [oda_skip rs _ h1, oda_skip rs _ h1, oda_skip rs _ (by omega)]
      exact oda_comp rs hg' c m n h k
    · by_cases h2 : 0 < p.1 - c - 1
      · by_cases h3 : m ≤ p.1 - c - 1
        · rw [oda_stop rs h1 h2 h3]
          by_cases h4 : m + n ≤ p.1 - c - 1
          · rw [oda_stop rs h1 h2 h4, oda_stop rs (by omega) (by omega) (by omega)]
            omega
          · rw [oda_go rs h1 h2 h4]
            by_cases h6 : 0 < p.1 - (c + m) - 1
            · rw [oda_go rs (by omega) h6 (by omega)]
              congr 1
              omega
            · rw [oda_in rs _ (by omega) h6]
              congr 1
              omega
        · rw [oda_go rs h1 h2 h3, oda_go rs h1 h2 (by omega)]
          have := oda_gt rs p.2 (m - (p.1 - c - 1)) (by omega)
          rw [oda_skip rs _ (by omega), ← oda_comp rs hg' p.2 (m - (p.1 - c - 1)) n (by omega) k]
          congr 1
          omega
      · rw [oda_in rs _ h1 h2, oda_in rs _ h1 h2]
        have := oda_gt rs p.2 m h
        rw [oda_skip rs _ (by omega)]
        exact oda_comp rs hg' p.2 m n h k

theorem tot_nonneg : ∀ (rs : List (Int × Int)), Good rs → 0 ≤ tot rs
  | [], _ => by simp [tot]
  | p :: rs, hg => by
    obtain ⟨_, _, hp, _, hg'⟩ := hg
    have := tot_nonneg rs hg'
    simp only [tot]
    omega

theorem oda_bounds : ∀ (rs : List (Int × Int)), Good rs → ∀ (c n : Int), 1 ≤ n → c + n ≤ oda rs c n ∧ oda rs c n ≤ c + n + tot rs
  | [], _, c, n, h => by simp only [oda, tot]; omega
  | p :: rs, hg, c, n, h => by
    obtain ⟨_, _, hp, _, hg'⟩ := hg
    have ht := tot_nonneg rs hg'
    simp only [tot]
    by_cases h1 : p.2 ≤ c
    · have := oda_bounds rs hg' c n h
      rw [oda_skip rs _ h1]
      omega
    · by_cases h2 : 0 < p.1 - c - 1
      · by_cases h3 : n ≤ p.1 - c - 1
        · rw [oda_stop rs h1 h2 h3]
          omega
        · have := oda_bounds rs hg' p.2 (n - (p.1 - c - 1)) (by omega)
          rw [oda_go rs h1 h2 h3]
          omega
      · have := oda_bounds rs hg' p.2 n h
        rw [oda_in rs _ h1 h2]
        omega

theorem ovs_zero : ∀ (rs : List (Int × Int)) (d a : Int), (∀ q ∈ rs, a < q.1) → ovs d a rs = 0
  | [], _, _, _ => rfl
  | p :: rs, d, a, h => by
    have h1 := h p (by simp)
    simp only [ovs, ov]
    rw [if_neg (by omega), ovs_zero rs d a (fun q hq => h q (by simp [hq]))]
    rfl

theorem ovs_same : ∀ (rs : List (Int × Int)) (d d' a : Int), (∀ q ∈ rs, d + 1 ≤ q.1 ∧ d' + 1 ≤ q.1) → ovs d a rs = ovs d' a rs
  | [], _, _, _, _ => rfl
  | p :: rs, d, d', a, h => by
    have h1 := h p (by simp)
    simp only [ovs, ov]
    rw [ovs_same rs d d' a (fun q hq => h q (by simp [hq])), show max p.1 (d + 1) = p.1 by omega, show max p.1 (d' + 1) = p.1 by omega]

theorem oda_nth : ∀ (rs : List (Int × Int)), Good rs → ∀ (c n : Int), 1 ≤ n → (∀ q ∈ rs, ¬ (q.1 ≤ oda rs c n ∧ oda rs c n ≤ q.2)) ∧ oda rs c n - c - ovs c (oda rs c n) rs = n
  | [], _, c, n, h => by simp [oda, ovs]; omega
  | p :: rs, hg, c, n, h => by
    obtain ⟨_, _, hp, hq, hg'⟩ := hg
    by_cases h1 : p.2 ≤ c
    · have hgt := oda_gt rs c n h
      obtain ⟨i1, i2⟩ := oda_nth rs hg' c n h
      rw [oda_skip rs _ h1]
      generalize oda rs c n = a at *
      refine ⟨fun q hm => ?_, ?_⟩
      · rcases List.mem_cons.1 hm with rfl | hm
        · omega
        · exact i1 q hm
      · simp only [ovs, ov]
        rw [if_neg (by omega)]
        omega
    · by_cases h2 : 0 < p.1 - c - 1
      · by_cases h3 : n ≤ p.1 - c - 1
        · rw [oda_stop rs h1 h2 h3]
          refine ⟨fun q hm => ?_, ?_⟩
          · rcases List.mem_cons.1 hm with rfl | hm
            · omega
            · have := hq q hm
              omega
          · rw [ovs_zero _ _ _ (fun q hm => by
              rcases List.mem_cons.1 hm with rfl | hm
              · omega
              · have := hq q hm
                omega)]
            omega
        · have hgt := oda_gt rs p.2 (n - (p.1 - c - 1)) (by omega)
          obtain ⟨i1, i2⟩ := oda_nth rs hg' p.2 (n - (p.1 - c - 1)) (by omega)
          rw [oda_go rs h1 h2 h3]
          generalize oda rs p.2 (n - (p.1 - c - 1)) = a at *
          refine ⟨fun q hm => ?_, ?_⟩
          · rcases List.mem_cons.1 hm with rfl | hm
            · omega
            · exact i1 q hm
          · simp only [ovs, ov]
            rw [if_pos (by omega), ovs_same rs c p.2 a (fun q hm => by have := hq q hm; omega)]
            omega
      · have hgt := oda_gt rs p.2 n h
        obtain ⟨i1, i2⟩ := oda_nth rs hg' p.2 n h
        rw [oda_in rs _ h1 h2]
        generalize oda rs p.2 n = a at *
        refine ⟨fun q hm => ?_, ?_⟩
        · rcases List.mem_cons.1 hm with rfl | hm
          · omega
          · exact i1 q hm
        · simp only [ovs, ov]
          rw [if_pos (by omega), ovs_same rs c p.2 a (fun q hm => by have := hq q hm; omega)]
          omega

/-- The runs, by their places. -/
theorem good_of : ∀ (rs : List (Int × Int)), (∀ (i : Nat) (p : Int × Int), rs[i]? = some p → -67108864 ≤ p.1 ∧ p.2 ≤ 67108864 ∧ p.1 ≤ p.2) → (∀ (i : Nat) (p q : Int × Int), rs[i]? = some p → rs[i + 1]? = some q → p.2 + 1 < q.1) → Good rs
  | [], _, _ => trivial
  | p :: rs, h, k => by
    have hg := good_of rs (fun i q e => h (i + 1) q e) (fun i q r e f => k (i + 1) q r e f)
    obtain ⟨a, b, c⟩ := h 0 p rfl
    refine ⟨a, b, c, ?_, hg⟩
    match rs, hg, k with
    | [], _, _ => intro q hq; cases hq
    | r :: rs', hg, k =>
      have h1 := k 0 p r rfl rfl
      obtain ⟨_, _, h3, h4, _⟩ := hg
      intro q hq
      rcases List.mem_cons.1 hq with rfl | hm
      · exact h1
      · have := h4 q hm
        omega

theorem ovs_take (d a : Int) : ∀ (rs : List (Int × Int)) (i : Nat) (p : Int × Int), rs[i]? = some p → ovs d a (rs.take (i + 1)) = ovs d a (rs.take i) + ov p d a
  | [], i, p, h => by simp at h
  | r :: rs, 0, p, h => by
    obtain rfl : r = p := by simpa using h
    simp [ovs]
  | r :: rs, i + 1, p, h => by
    have := ovs_take d a rs i p (by simpa using h)
    simp only [List.take_succ_cons, ovs] at *
    omega

theorem tot_take : ∀ (rs : List (Int × Int)) (i : Nat) (p : Int × Int), rs[i]? = some p → tot (rs.take (i + 1)) = tot (rs.take i) + (p.2 - p.1 + 1)
  | [], i, p, h => by simp at h
  | r :: rs, 0, p, h => by
    obtain rfl : r = p := by simpa using h
    simp [tot]
  | r :: rs, i + 1, p, h => by
    have := tot_take rs i p (by simpa using h)
    simp only [List.take_succ_cons, tot] at *
    omega

theorem Good.at : ∀ {rs : List (Int × Int)}, Good rs → ∀ {i : Nat} {p : Int × Int}, rs[i]? = some p → -67108864 ≤ p.1 ∧ p.2 ≤ 67108864 ∧ p.1 ≤ p.2
  | [], _, i, p, h => by simp at h
  | r :: rs, hg, 0, p, h => by
    obtain rfl : r = p := by simpa using h
    exact ⟨hg.1, hg.2.1, hg.2.2.1⟩
  | r :: rs, hg, i + 1, p, h => Good.at hg.2.2.2.2 (i := i) (by simpa using h)

/-- All the closed days lie within the bounds. -/
theorem tot_le : ∀ (rs : List (Int × Int)), Good rs → ∀ (lo : Int), (∀ q ∈ rs, lo ≤ q.1) → lo ≤ 67108865 → tot rs ≤ 67108865 - lo
  | [], _, lo, _, h => by simp only [tot]; omega
  | p :: rs, hg, lo, hq, h => by
    obtain ⟨h1, h2, h3, h4, h5⟩ := hg
    have := tot_le rs h5 (p.2 + 1) (fun q hm => by have := h4 q hm; omega) (by omega)
    have := hq p (by simp)
    simp only [tot]
    omega

theorem tot_bound (rs : List (Int × Int)) (hg : Good rs) : tot rs ≤ 134217729 := by
  have := tot_le rs hg (-67108864) (fun q hm => by
    obtain ⟨i, hi⟩ := List.mem_iff_getElem?.1 hm
    exact (hg.at hi).1) (by omega)
  omega

theorem Good.take : ∀ {rs : List (Int × Int)}, Good rs → ∀ (i : Nat), Good (rs.take i)
  | [], _, i => by simp [Good]
  | r :: rs, hg, 0 => by simp [Good]
  | r :: rs, hg, i + 1 => by
    obtain ⟨h1, h2, h3, h4, h5⟩ := hg
    exact ⟨h1, h2, h3, fun q hm => h4 q (List.mem_of_mem_take hm), h5.take i⟩

theorem ovs_bound (d a : Int) : ∀ (rs : List (Int × Int)), Good rs → 0 ≤ ovs d a rs ∧ ovs d a rs ≤ tot rs
  | [], _ => by simp [ovs, tot]
  | p :: rs, hg => by
    obtain ⟨_, _, hp, _, hg'⟩ := hg
    have := ovs_bound d a rs hg'
    simp only [ovs, tot, ov]
    split <;> omega
end Go.Proofs.Qxb6605889a
