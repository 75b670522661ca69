/- Seat b6067a: the six variables that the law's closure writes (blocks X .. X + 5), and worlds that differ in those alone. -/
import Derived.Test.YbulkdupwHeld
import Derived.Deep.AppendLies
namespace Go.Proofs.Ybulkdupw
open Go.RowKit

theorem lt_of_some {w : World} {k : Nat} {o : Obj} (h : w.heap[k]? = some o) : k < w.heap.size := (Array.getElem?_eq_some_iff.1 h).1
theorem cell_of {w : World} {k i : Nat} {c : Array Value} {t : TypeId} {v : Value} (h : w.heap[k]? = some (.cells c t (0, 0))) (hi : c[i]? = some v) : w.cell? ⟨k, i, none⟩ = some v := by
  simp [World.cell?, h, hi]
theorem frozen_of {w : World} {k i : Nat} {c : Array Value} {t : TypeId} (h : w.heap[k]? = some (.cells c t (0, 0))) : w.frozen? ⟨k, i, none⟩ = false := by
  simp [World.frozen?, h]
theorem block_setCell {w : World} {k i : Nat} {c : Array Value} {t : TypeId} (v : Value) (h : w.heap[k]? = some (.cells c t (0, 0))) : (w.setCell ⟨k, i, none⟩ v).heap[k]? = some (.cells (c.setIfInBounds i v) t (0, 0)) :=
  heap_setCell_same w k i c t v h
theorem setCell_grown (w : World) (a : Addr) (v : Value) : w.grownBy (w.setCell a v) (some a.block) :=
  ⟨rfl, rfl, rfl, by simp [World.setCell], fun k _ hk => Below.heap_setCell _ _ _ _ (fun e => hk (by rw [e]))⟩
theorem grown_refl (w : World) (r : Option Nat) : w.grownBy w r := ⟨rfl, rfl, rfl, Nat.le_refl _, fun _ _ _ => rfl⟩
theorem grown_of_below {w w' : World} (h : Below w.heap.size w w') : w.grownBy w' none := ⟨h.os, h.tape, h.output, h.size, fun k hk _ => h.block k hk⟩
theorem grown_drew (w : World) : w.grownBy w.drew none := ⟨rfl, rfl, rfl, Nat.le_refl _, fun _ _ _ => rfl⟩

/-- Nothing that was there has turned but blocks X .. X + 5. -/
structure Out (X : Nat) (w w' : World) : Prop where
  os : w'.os = w.os
  tape : w'.tape = w.tape
  output : w'.output = w.output
  size : w.heap.size ≤ w'.heap.size
  block : ∀ k, k < w.heap.size → k < X ∨ X + 6 ≤ k → w'.heap[k]? = w.heap[k]?

theorem Out.refl (X : Nat) (w : World) : Out X w w := ⟨rfl, rfl, rfl, Nat.le_refl _, fun _ _ _ => rfl⟩
theorem Out.step {X : Nat} {w w1 w2 : World} {row : Option Nat} (h : Out X w w1) (g : w1.grownBy w2 row) (hr : ∀ j, row = some j → (X ≤ j ∧ j < X + 6) ∨ w.heap.size ≤ j) : Out X w w2 :=
  ⟨g.os.trans h.os, g.tape.trans h.tape, g.output.trans h.output, Nat.le_trans h.size g.size, fun k hk hx =>
    (g.block k (Nat.lt_of_lt_of_le hk h.size) (fun e => by
      rcases hr k e.symm with h1 | h1
      · omega
      · omega)).trans (h.block k hk hx)⟩
theorem Out.cell {X : Nat} {w w' : World} (h : Out X w w') {k i : Nat} (hk : k < w.heap.size) (hx : k < X ∨ X + 6 ≤ k) : w'.cell? ⟨k, i, none⟩ = w.cell? ⟨k, i, none⟩ := World.cell?_of_block (w := w) (h.block k hk hx)

/-- The six variables. -/
structure Vars (X : Nat) (wr : World) (k : Int) (gl : Value) (nl ev : Bool) (hq hr : Value) : Prop where
  v0 : wr.heap[X]? = some (.cells #[.int .i64 k] 3 (0, 0))
  v1 : wr.heap[X + 1]? = some (.cells #[gl] 25 (0, 0))
  v2 : wr.heap[X + 2]? = some (.cells #[.bool nl] 4 (0, 0))
  v3 : wr.heap[X + 3]? = some (.cells #[.bool ev] 4 (0, 0))
  v4 : wr.heap[X + 4]? = some (.cells #[hq] 67 (0, 0))
  v5 : wr.heap[X + 5]? = some (.cells #[hr] 67 (0, 0))

section
variable {X : Nat} {w w' : World} {k : Int} {gl hq hr : Value} {nl ev : Bool}
theorem Vars.lt (h : Vars X w k gl nl ev hq hr) : X + 5 < w.heap.size := lt_of_some h.v5
theorem Vars.lt4 (h : Vars X w k gl nl ev hq hr) : X + 4 < w.heap.size := lt_of_some h.v4
theorem Vars.carry (h : Vars X w k gl nl ev hq hr) (hk : ∀ j, X ≤ j → j < X + 6 → w'.heap[j]? = w.heap[j]?) : Vars X w' k gl nl ev hq hr :=
  ⟨(hk _ (by omega) (by omega)).trans h.v0, (hk _ (by omega) (by omega)).trans h.v1, (hk _ (by omega) (by omega)).trans h.v2, (hk _ (by omega) (by omega)).trans h.v3, (hk _ (by omega) (by omega)).trans h.v4, (hk _ (by omega) (by omega)).trans h.v5⟩
theorem Vars.grown (h : Vars X w k gl nl ev hq hr) {row : Option Nat} (g : w.grownBy w' row) (hr' : ∀ j, row = some j → X + 6 ≤ j ∨ j < X) : Vars X w' k gl nl ev hq hr :=
  h.carry fun j h1 h2 => g.block j (by have := h.lt; omega) (fun e => by rcases hr' j e.symm with h3 | h3 <;> omega)
theorem Vars.set0 (h : Vars X w k gl nl ev hq hr) (k' : Int) : Vars X (w.setCell ⟨X, 0, none⟩ (.int .i64 k')) k' gl nl ev hq hr :=
  have o : ∀ j, j ≠ X → (w.setCell ⟨X, 0, none⟩ (.int .i64 k')).heap[j]? = w.heap[j]? := fun j hj => Below.heap_setCell _ _ _ _ hj
  ⟨(block_setCell _ h.v0).trans rfl, (o _ (by omega)).trans h.v1, (o _ (by omega)).trans h.v2, (o _ (by omega)).trans h.v3, (o _ (by omega)).trans h.v4, (o _ (by omega)).trans h.v5⟩
theorem Vars.set1 (h : Vars X w k gl nl ev hq hr) (gl' : Value) : Vars X (w.setCell ⟨X + 1, 0, none⟩ gl') k gl' nl ev hq hr :=
  have o : ∀ j, j ≠ X + 1 → (w.setCell ⟨X + 1, 0, none⟩ gl').heap[j]? = w.heap[j]? := fun j hj => Below.heap_setCell _ _ _ _ hj
  ⟨(o _ (by omega)).trans h.v0, (block_setCell _ h.v1).trans rfl, (o _ (by omega)).trans h.v2, (o _ (by omega)).trans h.v3, (o _ (by omega)).trans h.v4, (o _ (by omega)).trans h.v5⟩
theorem Vars.set2 (h : Vars X w k gl nl ev hq hr) (nl' : Bool) : Vars X (w.setCell ⟨X + 2, 0, none⟩ (.bool nl')) k gl nl' ev hq hr :=
  have o : ∀ j, j ≠ X + 2 → (w.setCell ⟨X + 2, 0, none⟩ (.bool nl')).heap[j]? = w.heap[j]? := fun j hj => Below.heap_setCell _ _ _ _ hj
  ⟨(o _ (by omega)).trans h.v0, (o _ (by omega)).trans h.v1, (block_setCell _ h.v2).trans rfl, (o _ (by omega)).trans h.v3, (o _ (by omega)).trans h.v4, (o _ (by omega)).trans h.v5⟩
theorem Vars.set3 (h : Vars X w k gl nl ev hq hr) (ev' : Bool) : Vars X (w.setCell ⟨X + 3, 0, none⟩ (.bool ev')) k gl nl ev' hq hr :=
  have o : ∀ j, j ≠ X + 3 → (w.setCell ⟨X + 3, 0, none⟩ (.bool ev')).heap[j]? = w.heap[j]? := fun j hj => Below.heap_setCell _ _ _ _ hj
  ⟨(o _ (by omega)).trans h.v0, (o _ (by omega)).trans h.v1, (o _ (by omega)).trans h.v2, (block_setCell _ h.v3).trans rfl, (o _ (by omega)).trans h.v4, (o _ (by omega)).trans h.v5⟩
theorem Vars.set4 (h : Vars X w k gl nl ev hq hr) (hq' : Value) : Vars X (w.setCell ⟨X + 4, 0, none⟩ hq') k gl nl ev hq' hr :=
  have o : ∀ j, j ≠ X + 4 → (w.setCell ⟨X + 4, 0, none⟩ hq').heap[j]? = w.heap[j]? := fun j hj => Below.heap_setCell _ _ _ _ hj
  ⟨(o _ (by omega)).trans h.v0, (o _ (by omega)).trans h.v1, (o _ (by omega)).trans h.v2, (o _ (by omega)).trans h.v3, (block_setCell _ h.v4).trans rfl, (o _ (by omega)).trans h.v5⟩
theorem Vars.set5 (h : Vars X w k gl nl ev hq hr) (hr' : Value) : Vars X (w.setCell ⟨X + 5, 0, none⟩ hr') k gl nl ev hq hr' :=
  have o : ∀ j, j ≠ X + 5 → (w.setCell ⟨X + 5, 0, none⟩ hr').heap[j]? = w.heap[j]? := fun j hj => Below.heap_setCell _ _ _ _ hj
  ⟨(o _ (by omega)).trans h.v0, (o _ (by omega)).trans h.v1, (o _ (by omega)).trans h.v2, (o _ (by omega)).trans h.v3, (o _ (by omega)).trans h.v4, (block_setCell _ h.v5).trans rfl⟩
end

/-- A row that is owned from 'base' on lies there. -/
theorem own_ge {w : World} {base e size n : Nat} {v : Value} {xs : List Value} (h : w.ownsRow base e size v n xs) : ∀ g, v.ownBlock = some g → base ≤ g ∧ g < w.heap.size := by
  intro g hg
  obtain ⟨_, ⟨rfl, _⟩ | ⟨g', cap, cur, rfl, hb, hh, _⟩⟩ := h
  · simp [Value.ownBlock] at hg
  · simp only [Value.ownBlock, Option.some.injEq] at hg
    subst hg
    exact ⟨hb, lt_of_some hh⟩

theorem ownsRow_setCell {w : World} {base e size n : Nat} {v : Value} {xs : List Value} (h : w.ownsRow base e size v n xs) {a : Addr} (ha : a.block < base) (u : Value) : (w.setCell a u).ownsRow base e size v n xs :=
  ownsRow_setCell_below h ha u

/-- The answers of 'held' to the first n of the texts f. -/
def answers (fb : Nat → ByteArray) (lb : Nat) (f : Nat → ByteArray) (n : Nat) : List Value := (List.range n).map fun i => .bool (hasB fb lb (f i))
theorem answers_succ (fb : Nat → ByteArray) (lb : Nat) (f : Nat → ByteArray) (n : Nat) : answers fb lb f (n + 1) = answers fb lb f n ++ [.bool (hasB fb lb (f n))] := by
  simp [answers, List.range_succ]
theorem answers_len (fb : Nat → ByteArray) (lb : Nat) (f : Nat → ByteArray) (n : Nat) : (answers fb lb f n).length = n := by simp [answers]
theorem answers_at {fb : Nat → ByteArray} {lb : Nat} {f : Nat → ByteArray} {n i : Nat} (h : i < n) : (answers fb lb f n)[i]? = some (.bool (hasB fb lb (f i))) := by
  simp [answers, h]

end Go.Proofs.Ybulkdupw
