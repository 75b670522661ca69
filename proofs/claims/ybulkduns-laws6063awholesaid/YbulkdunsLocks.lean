/- Seat b6063a: the numbers under which this dump holds sync.Mutex's functions and types (typed by hand after the guide's worked StatsLocks; the kernel checks every number). -/
import Derived.Test.YbulkdunsRows
import Derived.Conc.MuLone
import Derived.WalkKit
namespace Go.Proofs
abbrev Yba.muLink : Go.Conc.Locks.MuLink := { lock := 13, unlock := 8, ilock := 22, iunlock := 15, lockSlow := 31, unlockSlow := 29, disable := 23, enable := 24, acquire := 26, relMerge := 27, cas32 := 25, add32 := 28, tMutex := 34, tIMutex := 32, tPMutex := 71, tPIMutex := 76, tPI32 := 78, tUP := 80, tNoCopy := 29, tU32 := 30 }
theorem Yba.muLib : Go.Conc.Locks.MuLib Yba.prog Yba.muLink :=
  ⟨Yba.func13, Yba.func8, Yba.func22, Yba.func15, Yba.func23, Yba.func24, Yba.func26, Yba.func27, Yba.func25, Yba.func28, Yba.underlying32, Yba.runUnderlying32, Yba.sizeOf32, Yba.isAgg32, Yba.zeroValue32, Yba.underlying34, Yba.runUnderlying34, Yba.sizeOf34, Yba.isAgg34, Yba.zeroValue34, Yba.underlying71, Yba.runUnderlying71, Yba.sizeOf71, Yba.isAgg71, Yba.zeroValue71, Yba.underlying76, Yba.runUnderlying76, Yba.sizeOf76, Yba.isAgg76, Yba.zeroValue76, Yba.underlying78, Yba.runUnderlying78, Yba.sizeOf78, Yba.isAgg78, Yba.zeroValue78, Yba.underlying80, Yba.runUnderlying80, Yba.sizeOf80, Yba.isAgg80, Yba.zeroValue80, Yba.underlying29, Yba.runUnderlying29, Yba.sizeOf29, Yba.isAgg29, Yba.zeroValue29, Yba.underlying21, Yba.runUnderlying21, Yba.sizeOf21, Yba.isAgg21, Yba.zeroValue21, (by kernel_rfl)⟩
end Go.Proofs
