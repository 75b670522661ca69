/-
  No cell of these rows narrows 'for every input' (looked for: loops, veiled, ifaces, maps, wideKeys, modest, calm, conditions, laid).
  DERIVED. THE GIVEN ROWS OF THIS SEAT. 1 by the template 'for every input the law returns true; each argument reads behind the call as it read before'; 0 by the template 'total and deterministic' (their statements: YbulkduqyTotals.lean).
  GIVEN WITH THE SEED: the statements are not yours to turn. If you find one false, say at which input.
  Laid BY PROGRAM, IN A SANDBOX (cutbox-rows.mjs): the forced cells as the released guide's own fill.sh prints them over the translation e63d1ea3fe17d4ed… (all of the seat's roots in one cut). By AI agents, Wed Nov 11 2026. No macro, syntax, notation, axiom, sorry.
-/
import Derived.Test.YbulkduqyChecked
import GoSem.Claim
import GoSem.ClaimJoined
import GoSem.ClaimMapViews
import Derived.JoinedTies
import Derived.KernelRfl
namespace Go.Proofs.Ybulkduqy
/- THE CELL 'sum', in the pinned program and in every row, IS THE sha256 OF THE DUMP (.gsa) THAT YbulkduqyProg.lean LOADS. Nothing in Lean hashes anything: it is a label: what it is worth is what the hold of that sum in a sandbox is worth. -/
noncomputable def Yba.pinned : Pinned := { name := "ybulkduqy", sum := "e63d1ea3fe17d4ed9676d4e8eaca0d43d9f0e3a05f7e8572a8ef86f6a25ed362", checked := Yba.checked }
namespace Rows
def none {H : Type} : Left H := { results := [], args := [] }

/-- 'engine.LawS6069AWhole': WHATEVER THE INPUT: true; the input reads as it did. -/
def lawS6069AWholeSpec : ChangeSpec := { name := "lawS6069AWhole", fn := fun _ => fun
  | [d1, d2] => { results := [.lit (.bool true)], args := [d1, d2] }
  | _ => none }
def lawS6069AWholeRow : OpenClaim := { program := "ybulkduqy", sum := "e63d1ea3fe17d4ed9676d4e8eaca0d43d9f0e3a05f7e8572a8ef86f6a25ed362", func := "example.com/steady-leaderboard/steady-leaderboard/internal/engine.LawS6069AWhole", spec := "lawS6069AWhole", inPlace := ["sync/atomic.StoreInt64"], apart := false }
def LawS6069AWholeSaid : Prop := lawS6069AWholeRow.holds Yba.pinned (OpenSpec.ofChange lawS6069AWholeSpec)

/-- ITS FALSE NEIGHBOUR: 'it returns false'. Refute it at one input. -/
def lawS6069AWholeWrong : ChangeSpec := { name := "lawS6069AWhole", fn := fun _ => fun
  | [d1, d2] => { results := [.lit (.bool false)], args := [d1, d2] }
  | _ => none }
def LawS6069AWholeWrongFalsely : Prop := lawS6069AWholeRow.holds Yba.pinned (OpenSpec.ofChange lawS6069AWholeWrong)

end Rows
end Go.Proofs.Ybulkduqy
