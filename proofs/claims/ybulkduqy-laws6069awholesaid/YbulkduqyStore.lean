import Derived.Test.YbulkduqyBase
import Derived.Laws.Externs
namespace Go.Proofs.Ybulkduqy
open Go.RowKit

theorem run_store (a : Addr) (x v : Int) (w : World) (hc : w.cell? a = some (.int .i64 x)) (hf : w.frozen? a = false) :
    (callFunc 33 #[.pointer (some a), .int .i64 v]).run Yba.prog w = .ok (.value (.tuple #[])) (w.setCell a (.int .i64 v)) := by
  rw [run_callFunc_extern Yba.func33 (by kernel_rfl) (by kernel_rfl) (by kernel_rfl) (show Extern.find Yba.f33 = some Extern.Atomic.storeT by kernel_rfl)]
  change ((Sem.run Yba.prog (do
    store (← asAddr (.pointer (some a))) (.int .i64 v) .atomic
    pure Extern.Atomic.none_) w).andThen fun v w' => .ok (Next.value v) w') = _
  simp [asAddr, hc, hf, go_sem, Extern.Atomic.none_]

set_option maxRecDepth 100000 in
set_option maxHeartbeats 400000 in
theorem store_any (b off : Nat) (x v : Int) (w : World) (hc : w.cell? ⟨b, off, none⟩ = some (.int .i64 x)) (hf : w.frozen? ⟨b, off, none⟩ = false) :
    Calls Yba.prog 16 #[.pointer (some ⟨b, off, none⟩), .int .i64 v] w fun e w' => e = .returned (.tuple #[]) ∧ w' = w.setCell ⟨b, off, none⟩ (.int .i64 v) := by
  have hs := run_store ⟨b, off, none⟩ x v w hc hf
  go_enter Yba.func16, Yba.ntmps16
  go_wp2_with fail
  go_end0
  exact ⟨rfl, rfl⟩
end Go.Proofs.Ybulkduqy
