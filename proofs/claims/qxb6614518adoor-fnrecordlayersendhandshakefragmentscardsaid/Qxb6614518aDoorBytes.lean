/-
  OURS. zzBytes_.. (f5, f13), zzNestedTooBig (f6): they return some bool and write nothing; zzCloneDatagrams (f7).
-/
import Derived.Test.Qxb6614518aDoorClone
namespace Go.Proofs.Qxb6614518aDoor
open Go Go.RowKit
set_option linter.unusedVariables false

/-- A slice of slices of bytes that is only read. -/
structure RowsAt (w : World) (so : Option Addr) (n c : Nat) (ls : List (List Int)) : Prop where
  len : ls.length = n
  nil : so = none → n = 0 ∧ c = 0
  rows : ∀ (i : Nat) (l : List Int), ls[i]? = some l → ∃ b o a m c', so = some ⟨b, o, none⟩ ∧ w.cell? ⟨b, o + i, none⟩ = some (.slice a m c') ∧ Src w a m c' l ∧ m ≤ 140737488355328 ∧ m ≤ c'

theorem RowsAt.kp {w w' : World} {so : Option Addr} {n c : Nat} {ls : List (List Int)} (h : RowsAt w so n c ls) (hk : Kp (fun _ => False) w w') : RowsAt w' so n c ls :=
  ⟨h.len, h.nil, fun i l hl => by
    obtain ⟨b, o, a, m, c', h1, h2, h3, h4⟩ := h.rows i l hl
    exact ⟨b, o, a, m, c', h1, by rw [hk.cell (p := ⟨b, o + i, none⟩) (by exact World.block_lt_of_cell? w _ h2) (fun h => h)]; exact h2, h3.kp hk (fun _ _ h => h), h4⟩⟩

theorem RowsAt.row {w : World} {so : Option Addr} {n c : Nat} {ls : List (List Int)} (h : RowsAt w so n c ls) {i : Nat} (hi : i < n) : ∃ b o a m c', so = some ⟨b, o, none⟩ ∧ w.cell? ⟨b, o + i, none⟩ = some (.slice a m c') ∧ Src w a m c' (ls.getD i []) ∧ m ≤ 140737488355328 := by
  have hl := h.len
  obtain ⟨b, o, a, m, c', h1, h2, h3, h4, _⟩ := h.rows i (ls.getD i []) (by rw [List.getD_eq_getElem?_getD, List.getElem?_eq_getElem (by omega)]; rfl)
  exact ⟨b, o, a, m, c', h1, h2, h3, h4⟩

/-- It returns true or false, and the world is as it was. -/
def SomeBool (w : World) (e : Ending) (w' : World) : Prop := ∃ b, e = .returned (.bool b) ∧ w = w'

set_option maxRecDepth 100000 in
set_option maxHeartbeats 1000000 in
theorem nest_any {w : World} {so : Option Addr} {n c : Nat} {ls : List (List Int)} (h : RowsAt w so n c ls) (hn : n ≤ 140737488355328) (s : Int) (hs0 : 0 ≤ s) :
    Calls Tryd.prog 6 #[.slice so n c, .int .i64 s] w (SomeBool w) := by
  have H := hide h
  clear h
  by_cases hs : s ≤ 1048576
  · go_enter Tryd.func6, Tryd.ntmps6
    go_wp2_with fail
    go_loop [5, 6] (fun t i => ∃ (k : Nat) (z : Int), k ≤ n ∧ i = .int .i64 k ∧ 0 ≤ z ∧ z ≤ 1048576 ∧ t = .int .i64 z) (fun _ i => n - (intOf i).toNat)
    case atStart => exact ⟨0, s, Nat.zero_le _, rfl, hs0, hs, rfl⟩
    case round =>
      obtain ⟨k, z, hk, rfl, z0, z1, rfl⟩ := hrel
      by_cases hlt : k < n
      · obtain ⟨b, o, a, m, c', rfl, e1, e2, hm⟩ := H.out.row hlt
        clear e2
        go_wp2
        · go_ret
          exact ⟨_, rfl, rfl⟩
        · go_round
          case rel => exact ⟨k + 1, _, by omega, by go_num, by omega, by assumption, rfl⟩
          case measure => simp [intOf]; omega
      · go_wp2
        go_ret
        exact ⟨_, rfl, rfl⟩
  · go_enter Tryd.func6, Tryd.ntmps6
    go_wp2
    go_ret
    exact ⟨_, rfl, rfl⟩

set_option maxRecDepth 100000 in
set_option maxHeartbeats 1000000 in
theorem bytes5_any {w : World} {so fso : Option Addr} {n c fl fc : Nat} {ls : List (List Int)} (h : RowsAt w so n c ls) (hn : n ≤ 140737488355328) (hfl : fl ≤ 140737488355328) (a1 a2 a3 a4 a5 a6 : Int) :
    Calls Tryd.prog 5 #[.int .u64 a1, .int .u64 a2, .slice so n c, .int .u8 a3, .int .u32 a4, .int .u16 a5, .int .u32 a6, .slice fso fl fc] w (SomeBool w) := by
  have H := hide h
  clear h
  by_cases hs : (n : Int) ≤ 1048576
  · go_enter Tryd.func5, Tryd.ntmps5
    go_wp2_with fail
    go_loop [17, 18] (fun t i => ∃ (k : Nat) (z : Int), k ≤ n ∧ i = .int .i64 k ∧ 0 ≤ z ∧ z ≤ 1048576 ∧ t = .int .i64 z) (fun _ i => n - (intOf i).toNat)
    case atStart => exact ⟨0, n, Nat.zero_le _, rfl, by omega, hs, rfl⟩
    case round =>
      obtain ⟨k, z, hk, rfl, z0, z1, rfl⟩ := hrel
      by_cases hlt : k < n
      · obtain ⟨b, o, a, m, c', rfl, e1, e2, hm⟩ := H.out.row hlt
        clear e2
        go_wp2
        · go_ret
          exact ⟨_, rfl, rfl⟩
        · go_ret
          exact ⟨_, rfl, rfl⟩
        · go_round
          case rel => exact ⟨k + 1, _, by omega, by go_num, by omega, by assumption, rfl⟩
          case measure => simp [intOf]; omega
      · go_wp2
        all_goals go_ret
        all_goals exact ⟨_, rfl, rfl⟩
  · go_enter Tryd.func5, Tryd.ntmps5
    go_wp2
    go_ret
    exact ⟨_, rfl, rfl⟩

set_option maxRecDepth 100000 in
set_option maxHeartbeats 1000000 in
theorem bytes13_any {w : World} {so fso : Option Addr} {n c fl fc : Nat} {ls : List (List Int)} (h : RowsAt w so n c ls) (hn : n ≤ 140737488355328) (hfl : fl ≤ 140737488355328) (a1 a2 a3 a4 a5 a6 : Int) :
    Calls Tryd.prog 13 #[.int .u64 a1, .int .u64 a2, .slice so n c, .int .u8 a3, .int .u32 a4, .int .u16 a5, .int .u32 a6, .slice fso fl fc] w (SomeBool w) := by
  have H := hide h
  clear h
  by_cases hs : (n : Int) ≤ 1048576
  · go_enter Tryd.func13, Tryd.ntmps13
    go_wp2_with fail
    go_loop [17, 18] (fun t i => ∃ (k : Nat) (z : Int), k ≤ n ∧ i = .int .i64 k ∧ 0 ≤ z ∧ z ≤ 1048576 ∧ t = .int .i64 z) (fun _ i => n - (intOf i).toNat)
    case atStart => exact ⟨0, n, Nat.zero_le _, rfl, by omega, hs, rfl⟩
    case round =>
      obtain ⟨k, z, hk, rfl, z0, z1, rfl⟩ := hrel
      by_cases hlt : k < n
      · obtain ⟨b, o, a, m, c', rfl, e1, e2, hm⟩ := H.out.row hlt
        clear e2
        go_wp2
        · go_ret
          exact ⟨_, rfl, rfl⟩
        · go_ret
          exact ⟨_, rfl, rfl⟩
        · go_round
          case rel => exact ⟨k + 1, _, by omega, by go_num, by omega, by assumption, rfl⟩
          case measure => simp [intOf]; omega
      · go_wp2
        all_goals go_ret
        all_goals exact ⟨_, rfl, rfl⟩
  · go_enter Tryd.func13, Tryd.ntmps13
    go_wp2
    go_ret
    exact ⟨_, rfl, rfl⟩
end Go.Proofs.Qxb6614518aDoor
