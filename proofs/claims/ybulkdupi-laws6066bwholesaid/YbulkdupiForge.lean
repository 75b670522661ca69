import Derived.Test.YbulkdupiRows
import Derived.Test.YbulkdupiPlain
import Derived.WalkKit
import Derived.WalkSpells
namespace Go.Proofs.Ybulkdupi
open Go.RowKit

set_option maxHeartbeats 400000 in
theorem forge_any (k : Int) (b off len cap : Nat) (R M : Nat → Int) (w : World) (hlen : len ≤ 1048576) (hb : b < w.heap.size)
    (hc0 : ∀ i, i < len → w.cell? ⟨b, off + i * 2, none⟩ = some (.int .i64 (R i))) (hc1 : ∀ i, i < len → w.cell? ⟨b, off + i * 2 + 1, none⟩ = some (.int .i64 (M i))) :
    Calls Yba.prog 4 #[.int .i64 k, .slice (some ⟨b, off, none⟩) len cap] w fun e w' =>
      e = .returned (.tuple #[.agg #[.int .i64 (valAt R (firstFrom R k 0 len)), .int .i64 (valAt M (firstFrom R k 0 len))], .bool (foundAt (firstFrom R k 0 len))]) ∧ Below w.heap.size w w' := by
  go_enter Yba.func4, Yba.ntmps4
  go_wp2
  go_loopw [10] (fun i wr => ∃ j : Nat, j ≤ len ∧ i = .int .i64 j ∧ Hid (firstFrom R k 0 len = firstFrom R k j (len - j)) ∧ wr.cell? ⟨w.heap.size, 0, none⟩ = some (.int .i64 0) ∧ wr.cell? ⟨w.heap.size, 1, none⟩ = some (.int .i64 0) ∧
      wr.frozen? ⟨w.heap.size, 0, none⟩ = false ∧ wr.frozen? ⟨w.heap.size, 1, none⟩ = false ∧ w.heap.size < wr.heap.size ∧ Below w.heap.size w wr) (fun i _ => len - (intOf i).toNat)
  case atStart => exact ⟨0, Nat.zero_le _, rfl, rfl, by simp, by simp, by simp, by simp, by simp, (Below.refl _ _).alloc (Nat.le_refl _) _⟩
  case round =>
    obtain ⟨j, hj, rfl, HF, z0, z1, f0, f1, hsz, hbel⟩ := hrel
    by_cases hlt : j < len
    · have d0 : wr.cell? ⟨b, off + j * 2, none⟩ = some (.int .i64 (R j)) := (hbel.cell (by exact hb)).trans (hc0 j hlt)
      have d1 : wr.cell? ⟨b, off + j * 2 + 1, none⟩ = some (.int .i64 (M j)) := (hbel.cell (by exact hb)).trans (hc1 j hlt)
      by_cases hk : R j = k
      · have hkb : (R j == k) = true := by simp [hk]
        have HK : Hid (R j = k) := hk
        clear hk
        clear hc0 hc1
        go_wp2
        refine bodyPost_ret (v := .tuple #[.agg #[.int .i64 (R j), .int .i64 (M j)], .bool true]) ?_ rfl ⟨?_, ?_⟩
        · have c0 := World.cell?_setCell_other (wr.setCell ⟨w.heap.size, 0, none⟩ (.int .i64 (R j))) ⟨w.heap.size, 1, none⟩ ⟨w.heap.size, 0, none⟩ (.int .i64 (M j)) (by simp)
          rw [World.cell?_setCell_same wr ⟨w.heap.size, 0, none⟩ (.int .i64 (R j)) z0] at c0
          have c1 := World.cell?_setCell_same (wr.setCell ⟨w.heap.size, 0, none⟩ (.int .i64 (R j))) ⟨w.heap.size, 1, none⟩ (.int .i64 (M j)) ((World.cell?_setCell_other wr ⟨w.heap.size, 0, none⟩ ⟨w.heap.size, 1, none⟩ (.int .i64 (R j)) (by simp)).trans z1)
          simp [results, Yba.results4, go_sem, hsz, c0, c1]
        · rw [HF.out, first_hit hlt HK.out]; rfl
        · exact ((hbel.setCell (p := ⟨w.heap.size, 0, none⟩) (Nat.le_refl _) _).setCell (p := ⟨w.heap.size, 1, none⟩) (Nat.le_refl _) _).alloc (by simp; omega) _
      · have hkb : (R j == k) = false := by simp [hk]
        have HK : Hid (¬ R j = k) := hk
        clear hk
        clear hc0 hc1
        go_wp2
        go_roundw
        case rel =>
          refine ⟨j + 1, by omega, by go_num, HF.out.trans (first_miss hlt HK.out), ?_, ?_, ?_, ?_, ?_, hbel.alloc (by omega) _⟩
          · exact (World.cell?_alloc_past _ _ _ hsz).trans z0
          · exact (World.cell?_alloc_past _ _ _ hsz).trans z1
          · exact (World.frozen?_alloc_past _ _ _ hsz).trans f0
          · exact (World.frozen?_alloc_past _ _ _ hsz).trans f1
          · simp; omega
        case measure => simp [intOf]; omega
    · go_wp2
      obtain rfl : j = len := by omega
      refine bodyPost_ret (v := .tuple #[.agg #[.int .i64 0, .int .i64 0], .bool false]) ?_ rfl ⟨?_, ?_⟩
      · have c0 := World.cell?_setCell_other (wr.setCell ⟨w.heap.size, 0, none⟩ (.int .i64 0)) ⟨w.heap.size, 1, none⟩ ⟨w.heap.size, 0, none⟩ (.int .i64 0) (by simp)
        rw [World.cell?_setCell_same wr ⟨w.heap.size, 0, none⟩ (.int .i64 0) z0] at c0
        have c1 := World.cell?_setCell_same (wr.setCell ⟨w.heap.size, 0, none⟩ (.int .i64 0)) ⟨w.heap.size, 1, none⟩ (.int .i64 0) ((World.cell?_setCell_other wr ⟨w.heap.size, 0, none⟩ ⟨w.heap.size, 1, none⟩ (.int .i64 0) (by simp)).trans z1)
        simp [results, Yba.results4, go_sem, c0, c1]
      · rw [HF.out, first_end]; rfl
      · exact (hbel.setCell (p := ⟨w.heap.size, 0, none⟩) (Nat.le_refl _) _).setCell (p := ⟨w.heap.size, 1, none⟩) (Nat.le_refl _) _

/-- The same of a slice without elements, whatever its address. -/
theorem forge_none (k : Int) (ao : Option Addr) (cap : Nat) (w : World) :
    Calls Yba.prog 4 #[.int .i64 k, .slice ao 0 cap] w fun e w' =>
      e = .returned (.tuple #[.agg #[.int .i64 0, .int .i64 0], .bool false]) ∧ Below w.heap.size w w' := by
  go_enter Yba.func4, Yba.ntmps4
  go_wp2
  refine wp_loop_rounds 1 ?_
  rw [rounds_succ]
  go_wp2
  exact bodyPost_ret (v := .tuple #[.agg #[.int .i64 0, .int .i64 0], .bool false]) (by simp [results, Yba.results4, go_sem]) rfl ⟨rfl, (Below.refl _ _).alloc (Nat.le_refl _) _⟩

end Go.Proofs.Ybulkdupi
