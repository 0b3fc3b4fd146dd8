/-
  OURS. zzRead24 (f18), zzRead48 (f17); small laws on bits.
-/
import Derived.Test.Qxb6614518aDoorExtends
import Derived.Laws.BitsAllLaws
namespace Go.Proofs.Qxb6614518aDoor
open Go Go.RowKit
set_option linter.unusedVariables false

theorem or8_u32 (a b : Int) (h1 : 0 ≤ a) (h2 : a < 4294967296) (h3 : 0 ≤ b) (h4 : b < 256) (h5 : a % 256 = 0) : bits .or .u32 a b = a + b := by
  rw [u32_or a b h1 h2 h3 (by omega), nat_join8 _ _ (by omega) (by omega)]
  omega
theorem or16_u32 (a b : Int) (h1 : 0 ≤ a) (h2 : a < 4294967296) (h3 : 0 ≤ b) (h4 : b < 65536) (h5 : a % 65536 = 0) : bits .or .u32 a b = a + b := by
  rw [u32_or a b h1 h2 h3 (by omega), nat_join16 _ _ (by omega) (by omega)]
  omega
theorem or8_u64 (a b : Int) (h1 : 0 ≤ a) (h2 : a < 18446744073709551616) (h3 : 0 ≤ b) (h4 : b < 256) (h5 : a % 256 = 0) : bits .or .u64 a b = a + b := by
  rw [u64_or a b h1 h2 h3 (by omega), nat_join8 _ _ (by omega) (by omega)]
  omega
theorem i64_or_nat (a b : Nat) (ha : a < 4611686018427387904) (hb : b < 4611686018427387904) : bits .or .i64 (a : Int) (b : Int) = ((a ||| b : Nat) : Int) := by
  have hx : a ||| b < 2 ^ 62 := Nat.or_lt_two_pow (by omega) (by omega)
  show IntKind.i64.wrap ((BitVec.ofInt 64 (a : Int) ||| BitVec.ofInt 64 (b : Int)).toNat : Int) = _
  rw [BitVec.toNat_or, ofInt_u64 a (by omega), ofInt_u64 b (by omega), IntKind.wrap_i64]
  generalize a ||| b = c at hx
  omega
theorem or8_i64 (a b : Int) (h1 : 0 ≤ a) (h2 : a < 65536) (h3 : 0 ≤ b) (h4 : b < 256) (h5 : a % 256 = 0) : bits .or .i64 a b = a + b := by
  obtain ⟨A, rfl⟩ := Int.eq_ofNat_of_zero_le h1
  obtain ⟨B, rfl⟩ := Int.eq_ofNat_of_zero_le h3
  rw [i64_or_nat A B (by omega) (by omega), nat_join8 _ _ (by omega) (by omega)]
  omega
theorem and24_u32 (a : Int) (h1 : 0 ≤ a) (h2 : a < 4294967296) : bits .and .u32 a 16777215 = a % 16777216 := by
  rw [u32_and a 16777215 h1 h2 (by omega) (by omega)]
  have := Nat.and_two_pow_sub_one_eq_mod a.toNat 24
  rw [show (16777215 : Int).toNat = 2 ^ 24 - 1 by decide, this]
  omega

set_option maxHeartbeats 1000000 in
theorem r24_any (b o c : Nat) (x y z : Int) (w : World) (h0 : w.cell? ⟨b, o, none⟩ = some (.int .u8 x)) (h1 : w.cell? ⟨b, o + 1, none⟩ = some (.int .u8 y)) (h2 : w.cell? ⟨b, o + 2, none⟩ = some (.int .u8 z))
   (x0 : 0 ≤ x) (x1 : x ≤ 255) (y0 : 0 ≤ y) (y1 : y ≤ 255) (z0 : 0 ≤ z) (z1 : z ≤ 255) :
    Calls Tryd.prog 18 #[.slice (some ⟨b, o, none⟩) 3 c] w fun e w' => e = .returned (.int .u32 (x * 65536 + y * 256 + z)) ∧ ∃ q, w' = w.drewN q := by
  have E := hide (show bits .or .u32 (bits .or .u32 (x * 65536) (y * 256)) z = x * 65536 + y * 256 + z by
    rw [or16_u32 (x * 65536) (y * 256) (by omega) (by omega) (by omega) (by omega) (by omega), or8_u32 _ z (by omega) (by omega) (by omega) (by omega) (by omega)])
  rw [← E.out]
  go_enter Tryd.func18, Tryd.ntmps18
  go_wp2_with fail
  go_quiet (fail)
  go_wp2
  go_ret
  exact ⟨rfl, _, rfl⟩

/-- What the first k bytes read as. -/
def rd (x : Nat → Int) : Nat → Int
  | 0 => 0
  | k + 1 => rd x k * 256 + x k

theorem rd_bound (x : Nat → Int) (hx : ∀ i, 0 ≤ x i ∧ x i ≤ 255) : ∀ k, 0 ≤ rd x k ∧ rd x k < 256 ^ k
  | 0 => by simp [rd]
  | k + 1 => by
    have h := rd_bound x hx k
    have h2 := hx k
    rw [rd, Int.pow_succ]
    omega

set_option maxHeartbeats 1000000 in
theorem r48_any (b o c : Nat) (x : Nat → Int) (w : World) (h0 : ∀ i, i < 6 → w.cell? ⟨b, o + i, none⟩ = some (.int .u8 (x i)))  (x0 : ∀ i, 0 ≤ x i ∧ x i ≤ 255) :
    Calls Tryd.prog 17 #[.slice (some ⟨b, o, none⟩) 6 c] w fun e w' => e = .returned (.int .u64 (rd x 6)) ∧ w = w' := by
  have H := hide (And.intro h0 x0)
  clear h0 x0
  go_enter Tryd.func17, Tryd.ntmps17
  go_wp2_with fail
  go_loop [3, 4] (fun v i => ∃ k : Nat, k ≤ 6 ∧ i = .int .i64 k ∧ v = .int .u64 (rd x k)) (fun _ i => 6 - (intOf i).toNat)
  case atStart => exact ⟨0, by omega, rfl, rfl⟩
  case round =>
    obtain ⟨k, hk, rfl, rfl⟩ := hrel
    by_cases hlt : k < 6
    · have e1 := H.out.1 k hlt
      have hb := H.out.2 k
      have hv := rd_bound x H.out.2 k
      have hv0 := hv.1
      have hv1 : rd x k < 1099511627776 := by
        have : (256 : Int) ^ k ≤ 256 ^ 5 := by
          have h1 : k = 0 ∨ k = 1 ∨ k = 2 ∨ k = 3 ∨ k = 4 ∨ k = 5 := by omega
          rcases h1 with h | h | h | h | h | h <;> subst h <;> decide
        have h2 := hv.2
        have h3 : (256 : Int) ^ 5 = 1099511627776 := by decide
        omega
      have hn := hide (show rd x (k + 1) = rd x k * 256 + x k from rfl)
      have hb0 := hb.1
      have hb1 := hb.2
      clear hb hv
      generalize rd x k = V at hv0 hv1 hn ⊢
      generalize x k = X at e1 hb0 hb1 hn
      have E := hide (or8_u64 (V * 256) X (by omega) (by omega) hb0 (by omega) (by omega))
      go_wp2
      go_round
      case rel => exact ⟨k + 1, by omega, by go_num, by rw [E.out, hn.out]⟩
      case measure => simp [intOf]; omega
    · obtain rfl : k = 6 := by omega
      go_wp2
      go_ret
      exact ⟨rfl, rfl⟩
end Go.Proofs.Qxb6614518aDoor
