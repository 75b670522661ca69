/-
  No cell of these rows narrows 'for every input' (looked for: loops, veiled, ifaces, maps, wideKeys, modest, calm, conditions, laid).
  DERIVED. THE GIVEN ROWS OF THIS SEAT. 2 by the template 'for every input the law returns true; each argument reads behind the call as it read before'; 0 by the template 'total and deterministic' (their statements: YbulkdunsTotals.lean).
  GIVEN WITH THE SEED: the statements are not yours to turn. If you find one false, say at which input.
  Laid BY PROGRAM, IN A SANDBOX (cutbox-rows.mjs): the forced cells as the released guide's own fill.sh prints them over the translation b7215d8519d970ab… (all of the seat's roots in one cut). By AI agents, Wed Nov 11 2026. No macro, syntax, notation, axiom, sorry.
-/
import Derived.Test.YbulkdunsChecked
import GoSem.Claim
import GoSem.ClaimJoined
import GoSem.ClaimMapViews
import Derived.JoinedTies
import Derived.KernelRfl
namespace Go.Proofs.Ybulkduns
/- THE CELL 'sum', in the pinned program and in every row, IS THE sha256 OF THE DUMP (.gsa) THAT YbulkdunsProg.lean LOADS. Nothing in Lean hashes anything: it is a label: what it is worth is what the hold of that sum in a sandbox is worth. -/
noncomputable def Yba.pinned : Pinned := { name := "ybulkduns", sum := "b7215d8519d970abe7f9ba3473e4f2e26c24108642a956499a3a11d3213ffa2c", checked := Yba.checked }
namespace Rows
def none {H : Type} : Left H := { results := [], args := [] }

/-- 'dns.LawS6063AWhole': WHATEVER THE INPUT: true; the input reads as it did. -/
def lawS6063AWholeSpec : ChangeSpec := { name := "lawS6063AWhole", fn := fun _ => fun
  | [d1, d2] => { results := [.lit (.bool true)], args := [d1, d2] }
  | _ => none }
def lawS6063AWholeRow : OpenClaim := { program := "ybulkduns", sum := "b7215d8519d970abe7f9ba3473e4f2e26c24108642a956499a3a11d3213ffa2c", func := "example.com/driftcache/driftcache/pkg/dns.LawS6063AWhole", spec := "lawS6063AWhole", inPlace := ["(*internal/sync.Mutex).Lock", "internal/race.Disable", "sync/atomic.CompareAndSwapInt32", "internal/race.Enable", "internal/race.Acquire", "(*internal/sync.Mutex).lockSlow", "internal/sync.runtime_canSpin", "internal/sync.runtime_doSpin", "internal/sync.throw", "internal/sync.runtime_nanotime", "internal/sync.runtime_SemacquireMutex", "sync/atomic.AddInt32", "(*internal/sync.Mutex).Unlock", "internal/race.ReleaseMerge", "(*internal/sync.Mutex).unlockSlow", "internal/sync.fatal", "internal/sync.runtime_Semrelease", "(*internal/sync.Mutex).TryLock"], unfollowed := true, recurses := true, plainKeys := false, apart := false }
def LawS6063AWholeSaid : Prop := lawS6063AWholeRow.holds Yba.pinned (OpenSpec.ofChange lawS6063AWholeSpec)

/-- ITS FALSE NEIGHBOUR: 'it returns false'. Refute it at one input. -/
def lawS6063AWholeWrong : ChangeSpec := { name := "lawS6063AWhole", fn := fun _ => fun
  | [d1, d2] => { results := [.lit (.bool false)], args := [d1, d2] }
  | _ => none }
def LawS6063AWholeWrongFalsely : Prop := lawS6063AWholeRow.holds Yba.pinned (OpenSpec.ofChange lawS6063AWholeWrong)

/-- 'dns.LawS6063ATakeAfter': WHATEVER THE INPUT: true; the input reads as it did. -/
def lawS6063ATakeAfterSpec : ChangeSpec := { name := "lawS6063ATakeAfter", fn := fun _ => fun
  | [d1, d2, d3] => { results := [.lit (.bool true)], args := [d1, d2, d3] }
  | _ => none }
def lawS6063ATakeAfterRow : OpenClaim := { program := "ybulkduns", sum := "b7215d8519d970abe7f9ba3473e4f2e26c24108642a956499a3a11d3213ffa2c", func := "example.com/driftcache/driftcache/pkg/dns.LawS6063ATakeAfter", spec := "lawS6063ATakeAfter", inPlace := ["(*internal/sync.Mutex).Lock", "internal/race.Disable", "sync/atomic.CompareAndSwapInt32", "internal/race.Enable", "internal/race.Acquire", "(*internal/sync.Mutex).lockSlow", "internal/sync.runtime_canSpin", "internal/sync.runtime_doSpin", "internal/sync.throw", "internal/sync.runtime_nanotime", "internal/sync.runtime_SemacquireMutex", "sync/atomic.AddInt32", "(*internal/sync.Mutex).Unlock", "internal/race.ReleaseMerge", "(*internal/sync.Mutex).unlockSlow", "internal/sync.fatal", "internal/sync.runtime_Semrelease"], unfollowed := true, recurses := true, plainKeys := false, apart := false }
def LawS6063ATakeAfterSaid : Prop := lawS6063ATakeAfterRow.holds Yba.pinned (OpenSpec.ofChange lawS6063ATakeAfterSpec)

/-- ITS FALSE NEIGHBOUR: 'it returns false'. Refute it at one input. -/
def lawS6063ATakeAfterWrong : ChangeSpec := { name := "lawS6063ATakeAfter", fn := fun _ => fun
  | [d1, d2, d3] => { results := [.lit (.bool false)], args := [d1, d2, d3] }
  | _ => none }
def LawS6063ATakeAfterWrongFalsely : Prop := lawS6063ATakeAfterRow.holds Yba.pinned (OpenSpec.ofChange lawS6063ATakeAfterWrong)

end Rows
end Go.Proofs.Ybulkduns
