/-
  No cell of these rows narrows 'for every input' (looked for: loops, veiled, ifaces, maps, wideKeys, modest, calm, conditions, laid).
  DERIVED. THE GIVEN ROWS OF THIS SEAT. 1 by the template 'for every input the law returns true; each argument reads behind the call as it read before'; 0 by the template 'total and deterministic' (their statements: YbulkdupiTotals.lean).
  GIVEN WITH THE SEED: the statements are not yours to turn. If you find one false, say at which input.
  Laid BY PROGRAM, IN A SANDBOX (cutbox-rows.mjs): the forced cells as the released guide's own fill.sh prints them over the translation f468bd3c465f5116… (all of the seat's roots in one cut). By AI agents, Wed Nov 11 2026. No macro, syntax, notation, axiom, sorry.
-/
import Derived.Test.YbulkdupiChecked
import GoSem.Claim
import GoSem.ClaimJoined
import GoSem.ClaimMapViews
import Derived.JoinedTies
import Derived.KernelRfl
namespace Go.Proofs.Ybulkdupi
/- THE CELL 'sum', in the pinned program and in every row, IS THE sha256 OF THE DUMP (.gsa) THAT YbulkdupiProg.lean LOADS. Nothing in Lean hashes anything: it is a label: what it is worth is what the hold of that sum in a sandbox is worth. -/
noncomputable def Yba.pinned : Pinned := { name := "ybulkdupi", sum := "f468bd3c465f5116b6f219fb0fb5be6bdb9517930a4c4b13ea80c52dae27d480", checked := Yba.checked }
namespace Rows
def none {H : Type} : Left H := { results := [], args := [] }

/-- 'pathlab.LawS6066BWhole': WHATEVER THE INPUT: true; the input reads as it did. -/
def lawS6066BWholeSpec : ChangeSpec := { name := "lawS6066BWhole", fn := fun _ => fun
  | [d1, d2, d3] => { results := [.lit (.bool true)], args := [d1, d2, d3] }
  | _ => none }
def lawS6066BWholeRow : OpenClaim := { program := "ybulkdupi", sum := "f468bd3c465f5116b6f219fb0fb5be6bdb9517930a4c4b13ea80c52dae27d480", func := "example.com/leadline/leadline/pkg/pathlab.LawS6066BWhole", spec := "lawS6066BWhole", apart := false }
def LawS6066BWholeSaid : Prop := lawS6066BWholeRow.holds Yba.pinned (OpenSpec.ofChange lawS6066BWholeSpec)

/-- ITS FALSE NEIGHBOUR: 'it returns false'. Refute it at one input. -/
def lawS6066BWholeWrong : ChangeSpec := { name := "lawS6066BWhole", fn := fun _ => fun
  | [d1, d2, d3] => { results := [.lit (.bool false)], args := [d1, d2, d3] }
  | _ => none }
def LawS6066BWholeWrongFalsely : Prop := lawS6066BWholeRow.holds Yba.pinned (OpenSpec.ofChange lawS6066BWholeWrong)

end Rows
end Go.Proofs.Ybulkdupi
