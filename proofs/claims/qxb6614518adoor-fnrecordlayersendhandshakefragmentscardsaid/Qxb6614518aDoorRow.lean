/-
  OURS. zzCheckRecord (f12) at a record that sendHandshake wrote.
-/
import Derived.Test.Qxb6614518aDoorChk
namespace Go.Proofs.Qxb6614518aDoor
open Go Go.RowKit
set_option linter.unusedVariables false

theorem add_flat (g o j : Nat) : (⟨g, o, none⟩ : Addr).add j = ⟨g, o + j, none⟩ := by
  unfold Addr.add
  by_cases h : j = 0 <;> simp [h]

theorem rc_eq (M : Msg) (k o n : Nat) (h : o + n ≤ M.body.length) : M.rc k o n = [22, 254, 253, M.ep % 65536 / 256, M.ep % 65536 % 256,
    (M.sq + k) / 1099511627776 % 256, (M.sq + k) / 4294967296 % 256, (M.sq + k) / 16777216 % 256, (M.sq + k) / 65536 % 256, (M.sq + k) / 256 % 256, (M.sq + k) % 256,
    (12 + n : Nat) / 256, (12 + n : Nat) % 256, M.ty, M.ln / 65536 % 256, M.ln / 256 % 256, M.ln % 256, M.ms / 256, M.ms % 256,
    (o : Int) / 65536 % 256, (o : Int) / 256 % 256, (o : Int) % 256, (n : Int) / 65536 % 256, (n : Int) / 256 % 256, (n : Int) % 256] ++ M.part o n := by
  have hl := M.length_part o n h
  unfold Msg.rc rec1
  rw [length_hs1, hl]
  unfold hs1
  rw [hl]
  rfl

theorem rd_b48 (s : Int) (h0 : 0 ≤ s) (h1 : s ≤ 281474976710655) : rd (fun i => (b48 s).getD i 0) 6 = s := by
  simp only [rd, b48, List.getD_cons_zero, List.getD_cons_succ]
  omega

theorem b48_byte (s : Int) (i : Nat) : 0 ≤ (b48 s).getD i 0 ∧ (b48 s).getD i 0 ≤ 255 := by
  have : ∀ z ∈ b48 s, 0 ≤ z ∧ z ≤ 255 := by
    intro z hz
    simp only [b48, List.mem_cons, List.not_mem_nil, or_false] at hz
    omega
  rw [List.getD_eq_getElem?_getD]
  cases h : (b48 s)[i]? with
  | none => simp
  | some z => exact this z (List.mem_of_getElem? h)

theorem hd_rc {w : World} {g p n dc k o : Nat} {pre : List Int} (M : Msg) (hok : M.ok) (hp : pre.length = p) (h : o + n ≤ M.body.length) (hb : M.body.length ≤ 1048576) (hn : n ≤ 1475) (hs : M.sq + k ≤ 281474976710655)
    (hsrc : Src w (some ⟨g, 0, none⟩) (p + (13 + (12 + n))) dc (pre ++ M.rc k o n)) :
    Hd w g (0 + p) M.ep M.sq M.ty M.ln M.ms k o n (fun i => (b48 (M.sq + k)).getD i 0) ((12 + n : Nat) / 256) ((12 + n : Nat) % 256) (M.ln / 65536 % 256) (M.ln / 256 % 256) (M.ln % 256) (M.ms / 256) (M.ms % 256)
      ((o : Int) / 65536 % 256) ((o : Int) / 256 % 256) ((o : Int) % 256) ((n : Int) / 65536 % 256) ((n : Int) / 256 % 256) ((n : Int) % 256) := by
  have hs0 := hok.hs0
  have he0 := hok.he0
  have C : ∀ i z, (M.rc k o n)[i]? = some z → w.cell? ⟨g, 0 + p + i, none⟩ = some (.int .u8 z) := by
    intro i z hz
    have := hsrc.cells ⟨g, 0, none⟩ rfl (p + i) z (by rw [List.getElem?_append_right (by omega), hp, Nat.add_sub_cancel_left]; exact hz)
    rw [add_flat, ← Nat.add_assoc] at this
    exact this
  have e1 : M.ep % 65536 / 256 = M.ep / 256 % 256 := by omega
  have e2 : M.ep % 65536 % 256 = M.ep % 256 := by omega
  rw [rc_eq M k o n h, e1, e2] at C
  refine ⟨C 0 _ rfl, C 1 _ rfl, C 2 _ rfl, C 3 _ rfl, C 4 _ rfl, ?_, fun i => b48_byte _ i, rd_b48 _ (by omega) hs, C 11 _ rfl, C 12 _ rfl, by omega,
    C 13 _ rfl, C 14 _ rfl, C 15 _ rfl, C 16 _ rfl, by omega, C 17 _ rfl, C 18 _ rfl, ?_, C 19 _ rfl, C 20 _ rfl, C 21 _ rfl, by omega, C 22 _ rfl, C 23 _ rfl, C 24 _ rfl, by omega⟩
  · intro i hi
    match i, hi with
    | 0, _ => exact C 5 _ rfl
    | 1, _ => exact C 6 _ rfl
    | 2, _ => exact C 7 _ rfl
    | 3, _ => exact C 8 _ rfl
    | 4, _ => exact C 9 _ rfl
    | 5, _ => exact C 10 _ rfl
  · have := hok.m0
    have := hok.m1
    omega

theorem part_src {w : World} {g p n dc k o : Nat} {pre : List Int} (M : Msg) (hp : pre.length = p) (h : o + n ≤ M.body.length)
    (hsrc : Src w (some ⟨g, 0, none⟩) (p + (13 + (12 + n))) dc (pre ++ M.rc k o n)) (hdc : p + (13 + (12 + n)) ≤ dc) :
    Src w (some ⟨g, 0 + p + 13 + 12, none⟩) n (dc - p - 13 - 12) (M.part o n) := by
  refine ⟨M.length_part o n h, (fun h => by cases h), fun a ha j z hz => ?_⟩
  cases ha
  have := hsrc.cells ⟨g, 0, none⟩ rfl (p + (25 + j)) z (by
    rw [List.getElem?_append_right (by omega), hp, Nat.add_sub_cancel_left, rc_eq M k o n h, List.getElem?_append_right (by simp)]
    simp only [List.length_cons, List.length_nil]
    rw [show 25 + j - (0 + 1 + 1 + 1 + 1 + 1 + 1 + 1 + 1 + 1 + 1 + 1 + 1 + 1 + 1 + 1 + 1 + 1 + 1 + 1 + 1 + 1 + 1 + 1 + 1 + 1) = j by omega]
    exact hz)
  rw [add_flat] at this ⊢
  rw [show 0 + p + 13 + 12 + j = 0 + (p + (25 + j)) by omega]
  exact this

theorem frag_part {w : World} {fb L n o : Nat} (M : Msg) (hL : M.body.length = L) (h : o + n ≤ L) (hsrc : Src w (some ⟨fb, 0, none⟩) L L M.body) :
    Src w (some ⟨fb, o, none⟩) n (L - o) (M.part o n) := by
  refine ⟨M.length_part o n (by omega), (fun h => by cases h), fun a ha j z hz => ?_⟩
  cases ha
  have hj : j < n := by
    have := (List.getElem?_eq_some_iff.1 hz).1
    rw [M.length_part o n (by omega)] at this
    exact this
  have := hsrc.cells ⟨fb, 0, none⟩ rfl (o + j) z (by
    unfold Msg.part at hz
    rw [List.getElem?_take_of_lt hj, List.getElem?_drop] at hz
    exact hz)
  rw [add_flat, Nat.zero_add] at this
  rw [add_flat]
  exact this

/-- The check says yes at the place of a record. -/
theorem chk_row {w : World} {g p n dc k o L : Nat} {fso : Option Addr} {pre : List Int} (M : Msg) (hok : M.ok) (hp : pre.length = p) (hL : M.body.length = L) (h : o + n ≤ L) (hb : L ≤ 1048576) (hn0 : n = 0 → L = 0)
    (hlen : p + (13 + (12 + n)) ≤ 1500) (hdc : p + (13 + (12 + n)) ≤ dc) (hs : M.sq + k ≤ 281474976710655)
    (hsrc : Src w (some ⟨g, 0, none⟩) (p + (13 + (12 + n))) dc (pre ++ M.rc k o n)) (hf : Src w fso L L M.body) (hfs : 0 < L → ∃ fb, fso = some ⟨fb, 0, none⟩) :
    Calls Tryd.prog 12 #[.slice (some ⟨g, 0, none⟩) (p + (13 + (12 + n))) dc, .int .i64 (p : Nat), .int .u64 M.ep, .int .u64 M.sq, .int .i64 (k : Nat), .int .u8 M.ty, .int .u32 M.ln, .int .u16 M.ms, .slice fso L L, .int .i64 (o : Nat)] w
      fun e w' => e = .returned (.tuple #[.int .i64 (n : Nat), .bool true]) ∧ ∃ q, w' = w.drewN q := by
  have H := hd_rc (dc := dc) M hok hp (by omega) (by omega) (by omega) hs hsrc
  have P1 := part_src (dc := dc) M hp (by omega) hsrc hdc
  by_cases hLz : 0 < L
  · obtain ⟨fb, rfl⟩ := hfs hLz
    exact chk_any g 0 p n dc k o L fb _ _ _ _ _ _ _ _ _ _ _ _ _ _ _ _ _ _ _ _ (M.part o n) w H (fun h0 => by have := hn0 h0; omega) (fun _ => rfl) hlen hdc h hb hok.he0 hok.he1 hok.hs0 hs hok.l0 hok.l1 hok.m0 hok.m1 (fun _ => P1) (fun _ => frag_part M hL h hf)
  · exact chk_any g 0 p n dc k o L 0 _ _ _ _ _ _ _ _ _ _ _ _ _ _ _ _ _ _ _ _ (M.part o n) w H (fun h0 => by omega) (fun h0 => by omega) hlen hdc h hb hok.he0 hok.he1 hok.hs0 hs hok.l0 hok.l1 hok.m0 hok.m1 (fun _ => P1) (fun h0 => by omega)
end Go.Proofs.Qxb6614518aDoor
