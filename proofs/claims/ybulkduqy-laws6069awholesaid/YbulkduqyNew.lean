import Derived.Test.YbulkduqyStore
namespace Go.Proofs.Ybulkduqy
open Go.RowKit

/-- The cells of a 'scores' as newScores lays it: its two maps in blocks B + 1 and B + 2. -/
def scCells (B : Nat) : Array Value := #[.int .u8 0, .int .u8 0, .slice none 0 0, .int .i64 0, .int .u8 0, .pointer none, .int .i64 0, .int .i64 0, .int .i32 0, .int .u32 0, .int .u32 0, .int .u32 0, .int .i32 0, .int .i32 0,
  .map (some (B + 1)), .int .u64 0, .map (some (B + 2)), .int .i64 0, .int .i64 (-9223372036854775808), .int .i64 (-9223372036854775808), .slice none 0 0, .int .u64 0, .int .i32 0, .int .u32 0, .map none]

/-- A 'scores' whose map of periods holds M, made in a world that had B blocks. -/
structure Sc (B : Nat) (w : World) (n : Nat) (M : Value → Value → Prop) : Prop where
  hd : w.heap[B + 3]? = some (.cells (scCells B) 60 (0, 0))
  is : Raw.Is w (B + 1) n M
  ids : Raw.Is w (B + 2) 0 (fun _ _ => False)

theorem lt_of_some {w : World} {k : Nat} {o : Obj} (h : w.heap[k]? = some o) : k < w.heap.size := (Array.getElem?_eq_some_iff.1 h).1
theorem cell_of {w : World} {k i : Nat} {c : Array Value} {t : TypeId} {v : Value} (h : w.heap[k]? = some (.cells c t (0, 0))) (hi : c[i]? = some v) : w.cell? ⟨k, i, none⟩ = some v := by
  simp [World.cell?, h, hi]
theorem frozen_of {w : World} {k i : Nat} {c : Array Value} {t : TypeId} (h : w.heap[k]? = some (.cells c t (0, 0))) : w.frozen? ⟨k, i, none⟩ = false := by
  simp [World.frozen?, h]
theorem block_setCell {w : World} {k i : Nat} {c : Array Value} {t : TypeId} (v : Value) (h : w.heap[k]? = some (.cells c t (0, 0))) : (w.setCell ⟨k, i, none⟩ v).heap[k]? = some (.cells (c.setIfInBounds i v) t (0, 0)) := by
  have := heap_setCell_same w k i c t v h
  exact this
theorem alloc_at {w : World} {o : Obj} {k : Nat} (hk : k = w.heap.size) : (w.alloc o).heap[k]? = some o := by subst hk; exact (MapKept.heap_alloc w o).1
theorem alloc_up {w : World} {o o' : Obj} {k : Nat} (h : w.heap[k]? = some o') : (w.alloc o).heap[k]? = some o' := (Below.heap_alloc _ _ _ (lt_of_some h)).trans h

theorem sc_made {w w1 : World} {o : Obj} {c : Array Value} (hc : c.setIfInBounds 19 (.int .i64 (-9223372036854775808)) = scCells w.heap.size)
    (hw : w1 = ((((w.alloc o).alloc (.map #[] 0)).alloc (.map #[] 0)).alloc (.cells c 60)).setCell ⟨w.heap.size + 3, 19, none⟩ (.int .i64 (-9223372036854775808))) : Sc w.heap.size w1 0 (fun _ _ => False) ∧ Below w.heap.size w w1 := by
  subst hw
  have h3 : ((((w.alloc o).alloc (.map #[] 0)).alloc (.map #[] 0)).alloc (.cells c 60)).heap[w.heap.size + 3]? = some (.cells c 60 (0, 0)) := alloc_at (by simp)
  have m1 : Raw.Is ((w.alloc o).alloc (.map #[] 0)) (w.heap.size + 1) 0 (fun _ _ => False) := by
    have := Raw.made (w.alloc o)
    simpa using this
  have m2 : Raw.Is (((w.alloc o).alloc (.map #[] 0)).alloc (.map #[] 0)) (w.heap.size + 2) 0 (fun _ _ => False) := by
    have := Raw.made ((w.alloc o).alloc (.map #[] 0))
    simpa using this
  refine ⟨⟨?_, ?_, ?_⟩, ((((((Below.refl _ _).alloc (by simp) _).alloc (by simp) _).alloc (by simp; omega) _).alloc (by simp; omega) _).setCell (by simp) _)⟩
  · rw [← hc]
    exact block_setCell _ h3
  · exact m1.of_block ((Below.heap_setCell _ _ _ _ (by simp)).trans ((Below.heap_alloc _ _ _ (by simp)).trans (Below.heap_alloc _ _ _ (by simp))))
  · exact m2.of_block ((Below.heap_setCell _ _ _ _ (by simp)).trans (Below.heap_alloc _ _ _ (by simp)))

set_option maxRecDepth 100000 in
set_option maxHeartbeats 400000 in
theorem new_any (w : World) : Calls Yba.prog 5 #[.agg #[.int .u8 0, .int .u8 0, .slice none 0 0, .int .i64 0, .int .u8 0, .pointer none, .int .i64 0, .int .i64 0]] w fun e w' =>
    e = .returned (.pointer (some ⟨w.heap.size + 3, 0, none⟩)) ∧ Sc w.heap.size w' 0 (fun _ _ => False) ∧ Below w.heap.size w w' := by
  have hmm := @run_makeMap Yba.prog
  go_enter Yba.func5, Yba.ntmps5
  go_wp2_with (go_at_call 16; refine (store_any _ _ 0 _ _ (cell_of (alloc_at (by simp)) rfl) (frozen_of (alloc_at (by simp)))).mono ?_; rintro e w1 ⟨rfl, hw1⟩; have HS := sc_made (c := _) rfl hw1; clear hw1)
  go_ret
  exact ⟨rfl, HS⟩
end Go.Proofs.Ybulkduqy
