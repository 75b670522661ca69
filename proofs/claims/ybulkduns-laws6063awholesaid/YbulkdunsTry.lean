/- Seat b6063a: the contract of sync.Mutex's TryLock on a free lock. -/
import Derived.Test.YbulkdunsLocks
namespace Go.Proofs.Ybulkduns
open Go.RowKit Go.MuLone

/-- The lock's address handed to the race detector's mark: the address itself. -/
theorem conv_up (a : Addr) (v : Value) (w : World) (hc : w.cell? a = some v) : (convert 76 80 (.pointer (some a))).run Yba.prog w = .ok (.pointer (some a)) w := by
  obtain ⟨e, n, hsh, hlt, hsp⟩ := World.shape?_of_cell? hc
  have hsz : (Yba.prog.info? 32).map (fun i => decide (i.size = 0)) = some false := by kernel_rfl
  obtain ⟨i, hi, hz0⟩ := Option.map_eq_some_iff.1 hsz
  have hz : i.size ≠ 0 := by simpa using hz0
  have hge : ¬ (n ≤ a.off) := by omega
  simp only [convert, Sem.run_bind, run_underlying Yba.underlying76, run_underlying Yba.underlying80, Result.andThen]
  refine Eq.trans (b := Sem.run Yba.prog (underlying 76 >>= _) w) rfl ?_
  simp [Conv.seenAt, viewAt, cellsIn, sizeOf, typeInfo, run_underlying Yba.underlying76, run_underlying Yba.underlying80, hi, hz, hsh, hge, Result.andThen]

set_option maxRecDepth 100000 in
set_option maxHeartbeats 800000 in
theorem trylock_free (a : Addr) (w : World) (hc : w.cell? a = some (.int .i32 0)) (hz : w.frozen? a = false) :
    Calls Yba.prog 7 #[.pointer (some a)] w fun e w' => e = .returned (.bool true) ∧ w' = w.setCell a (.int .i32 1) := by
  have hd : ∀ w : World, (callFunc 23 #[]).run Yba.prog w = .ok (.value (.tuple #[])) w := disable Yba.muLib
  have he : ∀ w : World, (callFunc 24 #[]).run Yba.prog w = .ok (.value (.tuple #[])) w := enable Yba.muLib
  have hr : ∀ (a : Addr) (w : World), (callFunc 26 #[.pointer (some a)]).run Yba.prog w = .ok (.value (.tuple #[])) w := acquire Yba.muLib
  have hcas := run_call_cas_hit (P := Yba.prog) Yba.func25 (by kernel_rfl) (by kernel_rfl) (by kernel_rfl) .i32 (by kernel_rfl) (y := 1) hc hz
  have hc' := World.cell?_setCell_same w a (.int .i32 1) hc
  have hcv := conv_up a _ _ hc'
  go_enter Yba.func7, Yba.ntmps7
  go_wp2
  go_ret
  exact ⟨rfl, rfl⟩
end Go.Proofs.Ybulkduns
