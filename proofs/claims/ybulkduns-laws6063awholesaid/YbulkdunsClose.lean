import Derived.Test.YbulkdunsBuild
import Derived.Test.YbulkdunsLocks
namespace Go.Proofs.Ybulkduns
open Go.RowKit Go.MuLone

section
variable {B R D : Nat} {w w' : World} {st : Int} {cl : Bool} {len j : Nat} {F : Nat → Bool} {H K : Nat → Int} {cb sb : Nat → Nat}

/-- What a store into one block of cells, or into none that is of them, leaves. -/
theorem Built.but (h : Built B R D w st cl len j F H K cb sb) {x : Nat} (hk : ∀ k, B ≤ k → k < w.heap.size → k ≠ x → w'.heap[k]? = w.heap[k]?)
    {st' : Int} {cl' : Bool} {K' : Nat → Int} (hx : B + 1 = x → w'.heap[B + 1]? = some (.cells (headCells st' B cl') 37 (0, 0))) (hx' : B + 1 ≠ x → st' = st ∧ cl' = cl)
    (hc : ∀ i, i < j → cb i = x → w'.heap[cb i]? = some (.cells (connCells i (F i) (K' i)) 41 (0, 0))) (hc' : ∀ i, i < j → cb i ≠ x → K' i = K i)
    (h9 : ∃ c t, w.heap[x]? = some (.cells c t (0, 0)) ∧ (t = 37 ∨ t = 41)) : Built B R D w' st' cl' len j F H K' cb sb := by
  obtain ⟨l1, l2, l3⟩ := h.lo
  obtain ⟨cc, h1, h2, h3⟩ := h.crow
  obtain ⟨dd, h4, h5, h6⟩ := h.srow
  obtain ⟨c9, t9, e9, ht9⟩ := h9
  have ne : ∀ {k : Nat} {c : Array Value} {t : TypeId}, w.heap[k]? = some (.cells c t (0, 0)) → t ≠ 37 → t ≠ 41 → k ≠ x := fun hk' ha hb e => by
    rw [e, e9] at hk'
    cases hk'
    rcases ht9 with e1 | e1
    · exact ha e1
    · exact hb e1
  refine ⟨?_, ⟨cc, (hk _ l1 (lt_of_some h1) (ne h1 (by decide) (by decide))).trans h1, h2, h3⟩, ⟨dd, (hk _ l2 (lt_of_some h4) (ne h4 (by decide) (by decide))).trans h4, h5, h6⟩, fun i hi => ?_, fun i hi => ?_, ?_, h.lo, h.inj⟩
  · by_cases e : B + 1 = x
    · exact hx e
    · obtain ⟨rfl, rfl⟩ := hx' e
      exact (hk _ (by omega) (lt_of_some h.head) e).trans h.head
  · by_cases e : cb i = x
    · exact hc i hi e
    · rw [hc' i hi e]
      exact (hk _ (l3 i hi).1 (lt_of_some (h.con i hi)) e).trans (h.con i hi)
  · exact (hk _ (l3 i hi).2 (lt_of_some (h.slt i hi)) (ne (h.slt i hi) (by decide) (by decide))).trans (h.slt i hi)
  · refine h.map.of_block (hk _ (Nat.le_refl _) h.map.lt ?_)
    rintro rfl
    obtain ⟨es, clock, hb, _⟩ := h.map
    rw [e9] at hb
    cases hb

theorem Built.congrK (h : Built B R D w st cl len j F H K cb sb) {K' : Nat → Int} (hK : ∀ i, i < j → K' i = K i) : Built B R D w st cl len j F H K' cb sb :=
  ⟨h.head, h.crow, h.srow, fun i hi => by rw [hK i hi]; exact h.con i hi, h.slt, h.map, h.lo, h.inj⟩

theorem Built.headNe (h : Built B R D w st cl len j F H K cb sb) {i : Nat} (hi : i < j) : cb i ≠ B + 1 := fun e => by
  have h1 := h.con i hi
  rw [e, h.head] at h1
  cases h1

theorem Built.setState (h : Built B R D w st cl len j F H K cb sb) (st' : Int) : Built B R D (w.setCell ⟨B + 1, 0, none⟩ (.int .i32 st')) st' cl len j F H K cb sb :=
  h.but (x := B + 1) (fun k _ _ hk => Below.heap_setCell _ _ _ _ hk) (fun _ => (block_setCell _ h.head).trans (by rfl)) (fun e => absurd rfl e) (fun i hi e => absurd e (h.headNe hi)) (fun _ _ _ => rfl) ⟨_, _, h.head, Or.inl rfl⟩

theorem Built.setClosed (h : Built B R D w st cl len j F H K cb sb) (cl' : Bool) : Built B R D (w.setCell ⟨B + 1, 3, none⟩ (.bool cl')) st cl' len j F H K cb sb :=
  h.but (x := B + 1) (fun k _ _ hk => Below.heap_setCell _ _ _ _ hk) (fun _ => (block_setCell _ h.head).trans (by rfl)) (fun e => absurd rfl e) (fun i hi e => absurd e (h.headNe hi)) (fun _ _ _ => rfl) ⟨_, _, h.head, Or.inl rfl⟩

theorem Built.setConn (h : Built B R D w st cl len j F H K cb sb) {i : Nat} (hi : i < j) (k' : Int) (hg : w.grownBy w' (some (cb i))) (hn : w'.heap[cb i]? = some (.cells (connCells i (F i) k') 41 (0, 0))) :
    Built B R D w' st cl len j F H (fun t => if t = i then k' else K t) cb sb :=
  h.but (x := cb i) (fun k _ hk hne => hg.block k hk (by simpa using hne)) (fun e => absurd e.symm (h.headNe hi)) (fun _ => ⟨rfl, rfl⟩)
    (fun t ht e => by
      obtain rfl := h.inj t i ht hi e
      simpa using hn)
    (fun t ht e => by
      have : t ≠ i := fun e' => e (by rw [e'])
      simp [this]) ⟨_, _, h.con i hi, Or.inr rfl⟩
end

/-- Close on a connection that has not been closed. -/
theorem connClose (bb i : Nat) (f : Bool) (w : World) (hb : w.heap[bb]? = some (.cells (connCells i f 0) 41 (0, 0))) :
    Calls Yba.prog 54 #[.pointer (some ⟨bb, 0, none⟩)] w fun e w' => (∃ v, e = .returned v) ∧ w.grownBy w' (some bb) ∧ w'.heap[bb]? = some (.cells (connCells i f 1) 41 (0, 0)) := by
  have hlt := lt_of_some hb
  have c1 : w.cell? ⟨bb, 1, none⟩ = some (.bool f) := cell_of hb rfl
  have c2 : w.cell? ⟨bb, 2, none⟩ = some (.int .i64 0) := cell_of hb rfl
  have f2 : w.frozen? ⟨bb, 2, none⟩ = false := frozen_of hb
  have hnew : (w.setCell ⟨bb, 2, none⟩ (.int .i64 1)).heap[bb]? = some (.cells (connCells i f 1) 41 (0, 0)) := (block_setCell _ hb).trans (by rfl)
  have hgr : w.grownBy (w.setCell ⟨bb, 2, none⟩ (.int .i64 1)) (some bb) := ⟨rfl, rfl, rfl, by simp [World.setCell], fun k _ hk => Below.heap_setCell _ _ _ _ (fun e => hk (by rw [e]))⟩
  have HN : Hid ((w.setCell ⟨bb, 2, none⟩ (.int .i64 1)).heap[bb]? = some (.cells (connCells i f 1) 41 (0, 0))) := hnew
  clear hnew hb
  cases f with
  | false =>
    go_enter Yba.func54, Yba.ntmps54
    go_wp2
    go_ret
    exact ⟨⟨_, rfl⟩, hgr, HN.out⟩
  | true =>
    go_enter Yba.func54, Yba.ntmps54
    go_wp2
    go_ret
    exact ⟨⟨_, rfl⟩, hgr.andThen (World.grownBy_alloc _ _ none) (by simp), (Below.heap_alloc _ _ _ (by simpa using hlt)).trans HN.out⟩

end Go.Proofs.Ybulkduns
