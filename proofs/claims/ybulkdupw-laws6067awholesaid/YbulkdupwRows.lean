/-
  No cell of these rows narrows 'for every input' (looked for: loops, veiled, ifaces, maps, wideKeys, modest, calm, conditions, laid).
  DERIVED. THE GIVEN ROWS OF THIS SEAT. 1 by the template 'for every input the law returns true; each argument reads behind the call as it read before'; 0 by the template 'total and deterministic' (their statements: YbulkdupwTotals.lean).
  GIVEN WITH THE SEED: the statements are not yours to turn. If you find one false, say at which input.
  Laid BY PROGRAM, IN A SANDBOX (cutbox-rows.mjs): the forced cells as the released guide's own fill.sh prints them over the translation bea5d49527db94a8… (all of the seat's roots in one cut). By AI agents, Wed Nov 11 2026. No macro, syntax, notation, axiom, sorry.
-/
import Derived.Test.YbulkdupwChecked
import GoSem.Claim
import GoSem.ClaimJoined
import GoSem.ClaimMapViews
import Derived.JoinedTies
import Derived.KernelRfl
namespace Go.Proofs.Ybulkdupw
/- THE CELL 'sum', in the pinned program and in every row, IS THE sha256 OF THE DUMP (.gsa) THAT YbulkdupwProg.lean LOADS. Nothing in Lean hashes anything: it is a label: what it is worth is what the hold of that sum in a sandbox is worth. -/
noncomputable def Yba.pinned : Pinned := { name := "ybulkdupw", sum := "bea5d49527db94a89238f6c2d1a62769ceeed10a0f3adc593d8c043154646a4c", checked := Yba.checked }
namespace Rows
def none {H : Type} : Left H := { results := [], args := [] }

/-- 'peerwarden.LawS6067AWhole': WHATEVER THE INPUT: true; the input reads as it did. -/
def lawS6067AWholeSpec : ChangeSpec := { name := "lawS6067AWhole", fn := fun _ => fun
  | [d1, d2, d3, d4, d5, d6] => { results := [.lit (.bool true)], args := [d1, d2, d3, d4, d5, d6] }
  | _ => none }
def lawS6067AWholeRow : OpenClaim := { program := "ybulkdupw", sum := "bea5d49527db94a89238f6c2d1a62769ceeed10a0f3adc593d8c043154646a4c", func := "example.com/peerwarden/peerwarden.LawS6067AWhole", spec := "lawS6067AWhole", inPlace := ["(*sync.RWMutex).RLock", "internal/race.Read", "internal/race.Disable", "sync/atomic.AddInt32", "sync.runtime_SemacquireRWMutexR", "internal/race.Enable", "internal/race.Acquire", "(*sync.RWMutex).RUnlock", "internal/race.ReleaseMerge", "(*sync.RWMutex).rUnlockSlow", "sync.fatal", "sync.runtime_Semrelease"], unfollowed := true, recurses := true, plainKeys := false, apart := false }
def LawS6067AWholeSaid : Prop := lawS6067AWholeRow.holds Yba.pinned (OpenSpec.ofChange lawS6067AWholeSpec)

/-- ITS FALSE NEIGHBOUR: 'it returns false'. Refute it at one input. -/
def lawS6067AWholeWrong : ChangeSpec := { name := "lawS6067AWhole", fn := fun _ => fun
  | [d1, d2, d3, d4, d5, d6] => { results := [.lit (.bool false)], args := [d1, d2, d3, d4, d5, d6] }
  | _ => none }
def LawS6067AWholeWrongFalsely : Prop := lawS6067AWholeRow.holds Yba.pinned (OpenSpec.ofChange lawS6067AWholeWrong)

end Rows
end Go.Proofs.Ybulkdupw
