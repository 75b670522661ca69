import Derived.Test.YbulkdupwHas
import Derived.BigRegion
namespace Go.Proofs.Ybulkdupw
open Go.RowKit

theorem lt_of_cell {w : World} {k i : Nat} {v : Value} (h : w.cell? ⟨k, i, none⟩ = some v) : k < w.heap.size := by
  simp only [World.cell?] at h
  split at h
  · rename_i hh; exact (Array.getElem?_eq_some_iff.1 hh).1
  · cases h

set_option maxRecDepth 100000 in
set_option maxHeartbeats 800000 in
theorem held_core (T L m : Nat) (s p : ByteArray) (q : Bool) (w : World) (hT : w.cell? ⟨T, 0, none⟩ = some (.pointer (some ⟨L, 0, none⟩))) (hL : w.cell? ⟨L, 8, none⟩ = some (.map (some m)))
    (hlk : ∀ w', w'.heap[m]? = w.heap[m]? → (Instr.lookup 37 (.map (some m)) (kv s) true).run Yba.prog w' = .ok (.tuple #[.agg #[.int .u64 0, .int .u64 0, .pointer none, .int .u8 0, .string p, .int .u64 0, .int .i64 0, .pointer none, .string ⟨#[]⟩], .bool q]) w') (hm : m < w.heap.size) :
    Calls Yba.prog 9 #[kv s, .pointer (some ⟨T, 0, none⟩)] w fun e w' => e = .returned (.bool q) ∧ Below w.heap.size w w' := by
  have hTl := lt_of_cell hT
  have hLl := lt_of_cell hL
  unfold kv at *
  have l1 := hlk (w.alloc (.cells #[.int .u64 0, .int .u64 0, .pointer none, .int .u8 0, .string s] 36)).drew (Below.heap_alloc _ _ _ hm)
  have l2 := hlk ((w.alloc (.cells #[.int .u64 0, .int .u64 0, .pointer none, .int .u8 0, .string s] 36)).alloc (.cells #[.int .u64 0, .int .u64 0, .pointer none, .int .u8 0, .string ⟨#[]⟩, .int .u64 0, .int .i64 0, .pointer none, .string ⟨#[]⟩] 42)).drew ((Below.heap_alloc _ _ _ (by simp; omega)).trans (Below.heap_alloc _ _ _ hm))
  clear hlk
  go_enter Yba.func9, Yba.ntmps9
  go_wp2
  go_region
  all_goals
    go_wp2
    go_ret
    exact ⟨rfl, (((Below.refl _ _).alloc (Nat.le_refl _) _).alloc (by simp) _).drew⟩

theorem held_any {T L m n lb : Nat} {f : Nat → ByteArray} (s : ByteArray) (w : World) (hT : w.cell? ⟨T, 0, none⟩ = some (.pointer (some ⟨L, 0, none⟩))) (hL : w.cell? ⟨L, 8, none⟩ = some (.map (some m))) (hM : Raw.Is w m n (Mp f lb)) :
    Calls Yba.prog 9 #[kv s, .pointer (some ⟨T, 0, none⟩)] w fun e w' => e = .returned (.bool (hasB f lb s)) ∧ Below w.heap.size w w' := by
  cases h : hasB f lb s with
  | true => exact held_core T L m s s true w hT hL (fun w' hw => by have := look_ban (hM.of_block hw) s; rw [h] at this; simpa [bv] using this) hM.lt
  | false => exact held_core T L m s ⟨#[]⟩ false w hT hL (fun w' hw => by have := look_ban (hM.of_block hw) s; rw [h] at this; simpa [bv0] using this) hM.lt
end Go.Proofs.Ybulkdupw
