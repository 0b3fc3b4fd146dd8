/-
  OURS. The plain side: what sendHandshake leaves, round by round.
-/
import Derived.Test.Qxb6614518aDoorLeaf2
namespace Go.Proofs.Qxb6614518aDoor
open Go

/-- How many bytes of a body go into one record (fragmentRoom). -/
def room (ls : List (List Int)) : Nat :=
  match ls.getLast? with
  | none => 1475
  | some l => if l.length < 1475 then 1475 - l.length else 1475

/-- Where a record goes (send). -/
def step (ls : List (List Int)) (r : List Int) : List (List Int) :=
  match ls.getLast? with
  | none => ls ++ [r]
  | some l => if l.length + r.length ≤ 1500 then ls.set (ls.length - 1) (l ++ r) else ls ++ [r]

/-- The message as it is handed over. -/
structure Msg where
  ep : Int
  sq : Int
  ty : Int
  ln : Int
  ms : Int
  body : List Int

/-- The body bytes from o on, n of them. -/
def Msg.part (M : Msg) (o n : Nat) : List Int := (M.body.drop o).take n

/-- Record number k: body bytes o .. o + n. -/
def Msg.rc (M : Msg) (k o n : Nat) : List Int := rec1 M.ep (M.sq + k) (hs1 M.ty M.ln M.ms o (M.part o n))

/-- After k records: the datagrams, and how much of the body has gone. -/
def Msg.st (M : Msg) (ref : List (List Int)) : Nat → List (List Int) × Nat
  | 0 => (ref, 0)
  | k + 1 => (step (M.st ref k).1 (M.rc k (M.st ref k).2 (min (M.body.length - (M.st ref k).2) (room (M.st ref k).1))), (M.st ref k).2 + min (M.body.length - (M.st ref k).2) (room (M.st ref k).1))

theorem room_pos (ls : List (List Int)) : 1 ≤ room ls ∧ room ls ≤ 1475 := by
  unfold room
  split
  · decide
  · split <;> omega

theorem Msg.st_le (M : Msg) (ref : List (List Int)) : ∀ k, (M.st ref k).2 ≤ M.body.length
  | 0 => Nat.zero_le _
  | k + 1 => by have := M.st_le ref k; simp only [Msg.st]; omega

theorem length_rec1 (ep sq : Int) (ys : List Int) : (rec1 ep sq ys).length = 13 + ys.length := by simp [rec1, b16, b48]; omega
theorem length_hs1 (a b c d : Int) (ys : List Int) : (hs1 a b c d ys).length = 12 + ys.length := by simp [hs1, b16, b24]; omega
theorem Msg.length_part (M : Msg) (o n : Nat) (h : o + n ≤ M.body.length) : (M.part o n).length = n := by simp [Msg.part]; omega
theorem Msg.length_rc (M : Msg) (k o n : Nat) (h : o + n ≤ M.body.length) : (M.rc k o n).length = 25 + n := by
  rw [Msg.rc, length_rec1, length_hs1, M.length_part o n h]; omega
end Go.Proofs.Qxb6614518aDoor
