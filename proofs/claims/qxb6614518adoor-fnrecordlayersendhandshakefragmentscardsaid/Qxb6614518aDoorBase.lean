/-
  OURS. What the walks of this seat share: 'Kp' (blocks outside S are as they were), 'Near' (an append's row is the old one or a new one), 'Src' (a byte slice that is read), and the append law with its exact frame, out of the kit's own three laws.
-/
import Derived.Test.Qxb6614518aDoorRows
import Derived.WalkKit
import Derived.ArgAppend
namespace Go.Proofs.Qxb6614518aDoor
open Go Go.RowKit

theorem hide {p : Prop} (h : p) : Hid p := h
theorem unhide {p : Prop} (h : Hid p) : p := h

/-- Old blocks outside S are as they were; no block has gone. -/
structure Kp (S : Nat → Prop) (w w' : World) : Prop where
  os : w'.os = w.os
  tape : w'.tape = w.tape
  output : w'.output = w.output
  size : w.heap.size ≤ w'.heap.size
  block : ∀ k, k < w.heap.size → ¬ S k → w'.heap[k]? = w.heap[k]?

theorem Kp.refl (S : Nat → Prop) (w : World) : Kp S w w := ⟨rfl, rfl, rfl, Nat.le_refl _, fun _ _ _ => rfl⟩

theorem Kp.trans {S S' : Nat → Prop} {a b c : World} (h : Kp S a b) (k : Kp S' b c) (hs : ∀ i, i < a.heap.size → S' i → S i) : Kp S a c :=
  ⟨k.os.trans h.os, k.tape.trans h.tape, k.output.trans h.output, Nat.le_trans h.size k.size, fun i hi hn =>
    (k.block i (Nat.lt_of_lt_of_le hi h.size) (fun h' => hn (hs i hi h'))).trans (h.block i hi hn)⟩

theorem Kp.mono {S S' : Nat → Prop} {a b : World} (h : Kp S a b) (hs : ∀ i, i < a.heap.size → S i → S' i) : Kp S' a b :=
  ⟨h.os, h.tape, h.output, h.size, fun i hi hn => h.block i hi (fun h' => hn (hs i hi h'))⟩

theorem Kp.drew {S : Nat → Prop} {a w : World} (h : Kp S a w) : Kp S a w.drew := ⟨h.os, h.tape, h.output, h.size, h.block⟩

theorem Kp.alloc {S : Nat → Prop} {a w : World} (h : Kp S a w) (o : Obj) : Kp S a (w.alloc o) :=
  ⟨h.os, h.tape, h.output, by have := h.size; simp; omega, fun k hk hn => by
    rw [Below.heap_alloc _ _ _ (Nat.lt_of_lt_of_le hk h.size)]; exact h.block k hk hn⟩

theorem Kp.setCell {S : Nat → Prop} {a w : World} (h : Kp S a w) {p : Addr} (hp : S p.block ∨ a.heap.size ≤ p.block) (u : Value) : Kp S a (w.setCell p u) :=
  ⟨h.os, h.tape, h.output, by have := h.size; simpa [World.setCell] using this, fun k hk hn => by
    rw [Below.heap_setCell _ _ _ _ (fun e => by subst e; rcases hp with hp | hp; exact hn hp; omega)]; exact h.block k hk hn⟩

theorem Kp.grown {S : Nat → Prop} {a w w' : World} {row : Option Nat} (h : Kp S a w) (hg : w.grownBy w' row) (hr : ∀ k, row = some k → S k ∨ a.heap.size ≤ k) : Kp S a w' :=
  ⟨hg.os.trans h.os, hg.tape.trans h.tape, hg.output.trans h.output, Nat.le_trans h.size hg.size, fun k hk hn =>
    (hg.block k (Nat.lt_of_lt_of_le hk h.size) (fun e => by rcases hr k e.symm with h' | h'; exact hn h'; omega)).trans (h.block k hk hn)⟩

theorem Kp.below {S : Nat → Prop} {B : Nat} {w w' : World} (h : Kp S w w') (hB : B ≤ w.heap.size) (hS : ∀ k, k < B → ¬ S k) : Below B w w' :=
  ⟨h.os, h.tape, h.output, h.size, fun k hk => h.block k (by omega) (hS k hk)⟩

theorem Kp.cell {S : Nat → Prop} {w w' : World} (h : Kp S w w') {p : Addr} (hp : p.block < w.heap.size) (hn : ¬ S p.block) : w'.cell? p = w.cell? p :=
  World.cell?_of_block (w := w) (h.block p.block hp hn)

theorem Kp.frozen {S : Nat → Prop} {w w' : World} (h : Kp S w w') {p : Addr} (hp : p.block < w.heap.size) (hn : ¬ S p.block) : w'.frozen? p = w.frozen? p :=
  World.frozen?_of_block (w := w) (h.block p.block hp hn)

/-- The block of v' is v's, or new. -/
def Near (w : World) (v v' : Value) : Prop := ∀ k, v'.ownBlock = some k → v.ownBlock = some k ∨ w.heap.size ≤ k

theorem Near.refl (w : World) (v : Value) : Near w v v := fun _ h => .inl h

theorem Near.trans {w w1 : World} {a b c : Value} (h : Near w a b) (k : Near w1 b c) (hs : w.heap.size ≤ w1.heap.size) : Near w a c := by
  intro i hi
  rcases k i hi with h' | h'
  · exact h i h'
  · exact .inr (Nat.le_trans hs h')

theorem ownsRow_mono {w : World} {base base' : Nat} {e : TypeId} {size : Nat} {v : Value} {n : Nat} {xs : List Value} (h : w.ownsRow base e size v n xs) (hb : base' ≤ base) : w.ownsRow base' e size v n xs := by
  refine ⟨h.1, ?_⟩
  rcases h.2 with h2 | ⟨g, cap, cur, hv, hg, r⟩
  · exact .inl h2
  · exact .inr ⟨g, cap, cur, hv, Nat.le_trans hb hg, r⟩

theorem ownsRow_kp {w w' : World} {S : Nat → Prop} {base : Nat} {e : TypeId} {size : Nat} {v : Value} {n : Nat} {xs : List Value} (h : w.ownsRow base e size v n xs) (hk : Kp S w w')
    (hn : ∀ k, v.ownBlock = some k → ¬ S k) : w'.ownsRow base e size v n xs := by
  refine ⟨h.1, ?_⟩
  rcases h.2 with h2 | ⟨g, cap, cur, rfl, hb, hgg, rest⟩
  · exact .inl h2
  · refine .inr ⟨g, cap, cur, rfl, hb, ?_, rest⟩
    rw [hk.block g (Array.getElem?_eq_some_iff.1 hgg).1 (hn g rfl)]
    exact hgg

section
variable {P : Program} (w : World)

/-- append onto a row of our own, one cell an element, the source whatever (nil too): the row behind it is the old one or a new one. -/
theorem run_append_near (base : Nat) (t ty e : TypeId) (i : TypeInfo) (z : Value) (bytes : Nat) (ht : P.underlying t = some (.slice e)) (hi : P.info? e = some i) (hz : i.zero = some z)
    (hsize : i.size = 1) (hby : i.bytes = bytes) (hzs : z.cells.size = 1)
    (v : Value) (n : Nat) (xs : List Value) (hown : w.ownsRow base e 1 v n xs)
    (so : Option Addr) (m c : Nat) (news : List Value) (hl : news.length = m) (hnone : so = none → m = 0 ∧ c = 0)
    (hnews : ∀ a, so = some a → ∀ j u, news[j]? = some u → w.cell? (a.add j) = some u) (h1 : ∀ u ∈ news, u.oneCell' = true)
    (hbytes : (n + m) * bytes ≤ 140737488355328) (h63 : n + m ≤ maxLen) (hbase : base ≤ w.heap.size) :
    ∃ v' w', (Builtin.append_ #[t, t] ty #[v, .slice so m c]).run P w = .ok v' w' ∧ w'.ownsRow base e 1 v' (n + m) (xs ++ news) ∧ w.grownBy w' v.ownBlock ∧ Near w v v' := by
  cases so with
  | none =>
    obtain ⟨rfl, rfl⟩ := hnone rfl
    obtain rfl : news = [] := List.eq_nil_of_length_eq_zero hl
    refine ⟨v, w, run_append_owned_none (P := P) w base t ty e i 1 ht hi v n xs hown, by simpa using hown, ⟨rfl, rfl, rfl, Nat.le_refl _, fun _ _ _ => rfl⟩, Near.refl _ _⟩
  | some a =>
    have hc := hnews a rfl
    have hl' : news.length = m * 1 := by omega
    rcases hown.2 with ⟨rfl, rfl⟩ | ⟨g, cap, cur, rfl, hbg, hg, hnc, hcm, hcs, htake⟩
    · have hx : xs = [] := List.eq_nil_of_length_eq_zero (by simpa using hown.1)
      subst hx
      obtain ⟨v', w', hr, ho, hgr, _⟩ := run_append_own (P := P) w w.heap.size t ty e i z 1 bytes ht hi hz hsize hby hzs (by decide) (.slice none 0 0) 0 [] (World.ownsRow_nil _ _ _ _) a m c news hl' hc h1 h63 hbytes (Nat.le_refl _)
      exact ⟨v', w', hr, ownsRow_mono ho hbase, hgr, fun k hk => .inr (ho.lt k hk).1⟩
    · by_cases hroom : n + m ≤ cap
      · obtain ⟨w', hr, ho, hgr⟩ := run_append_fits (P := P) w base t ty e i 1 ht hi hsize g n cap xs hown a m c news hl' hc h1 hroom
        exact ⟨_, w', hr, ho, hgr, fun k hk => .inl hk⟩
      · obtain ⟨v', w', hr, ho, hgr⟩ := run_append_arg_grows (P := P) w t ty e i z 1 bytes ht hi hz hsize hby hzs (by decide) ⟨g, 0, none⟩ n cap xs hown.1 (hown.cells rfl) a m c news hl' hc (by omega) h63 hbytes
        refine ⟨v', w', hr, ownsRow_mono ho hbase, ⟨hgr.os, hgr.tape, hgr.output, hgr.size, fun k hk _ => hgr.block k hk (by simp)⟩, fun k hk => .inr (ho.lt k hk).1⟩

theorem wpList_append_near {ops : Array Oper} {rest : List Oper} {o : Oper} {a : Act} {Q : Exit → Act → World → Prop} (hgd : o.guard = none) (s x : Operand) (t : TypeId)
    (ho : o.op = .call { callee := .builtin .append, args := #[s, x], argTypes := #[t, t] })
    (base : Nat) (e : TypeId) (i : TypeInfo) (z : Value) (bytes : Nat) (ht : P.underlying t = some (.slice e)) (hi : P.info? e = some i) (hz : i.zero = some z)
    (hsize : i.size = 1) (hby : i.bytes = bytes) (hzs : z.cells.size = 1)
    (v : Value) (n : Nat) (xs : List Value) (hs : a.eval s = v) (hown : w.ownsRow base e 1 v n xs)
    (so : Option Addr) (m c : Nat) (news : List Value) (hx : a.eval x = .slice so m c) (hl : news.length = m) (hnone : so = none → m = 0 ∧ c = 0)
    (hnews : ∀ b, so = some b → ∀ j u, news[j]? = some u → w.cell? (b.add j) = some u) (h1 : ∀ u ∈ news, u.oneCell' = true)
    (hbytes : (n + m) * bytes ≤ 140737488355328) (h63 : n + m ≤ maxLen) (hbase : base ≤ w.heap.size)
    (h : ∀ v' w', w'.ownsRow base e 1 v' (n + m) (xs ++ news) → w.grownBy w' v.ownBlock → Near w v v' → wpList P ops Q rest (a.put o.dst v') w') : wpList P ops Q (o :: rest) a w := by
  refine wpList_plain hgd fun K hK => ?_
  obtain ⟨v', w', hr, h2, h3, h4⟩ := run_append_near (P := P) w base t o.type e i z bytes ht hi hz hsize hby hzs v n xs hown so m c news hl hnone hnews h1 hbytes h63 hbase
  unfold Oper.wp execOp
  simp only [ho, resolve, invoke, builtin, Sem.run_bind, Sem.run_pure, Result.andThen_ok, List.map_toArray, List.map_cons, List.map_nil, hs, hx, hr]
  exact hK _ _ (h v' w' h2 h3 h4)
end
end Go.Proofs.Qxb6614518aDoor
