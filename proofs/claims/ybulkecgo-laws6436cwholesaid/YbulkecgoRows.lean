/-
  No cell of these rows narrows 'for every input' (looked for: loops, veiled, ifaces, maps, wideKeys, modest, calm, conditions, laid).
  DERIVED. THE GIVEN ROWS OF THIS SEAT. 1 by the template 'for every input the law returns true; each argument reads behind the call as it read before'; 0 by the template 'total and deterministic' (their statements: YbulkecgoTotals.lean).
  GIVEN WITH THE SEED: the statements are not yours to turn. If you find one false, say at which input.
  Laid BY PROGRAM, IN A SANDBOX (cutbox-rows.mjs): the forced cells as the released guide's own fill.sh prints them over the translation 384f218c7160071b… (all of the seat's roots in one cut). By AI agents, Wed Nov 11 2026. No macro, syntax, notation, axiom, sorry.
-/
import Derived.Test.YbulkecgoChecked
import GoSem.Claim
import GoSem.ClaimJoined
import GoSem.ClaimMapViews
import Derived.JoinedTies
import Derived.KernelRfl
namespace Go.Proofs.Ybulkecgo
/- THE CELL 'sum', in the pinned program and in every row, IS THE sha256 OF THE DUMP (.gsa) THAT YbulkecgoProg.lean LOADS. Nothing in Lean hashes anything: it is a label: what it is worth is what the hold of that sum in a sandbox is worth. -/
noncomputable def Yba.pinned : Pinned := { name := "ybulkecgo", sum := "384f218c7160071bb9a9f512e3e925a6e0352a4438007697a6f89012a00b8dab", checked := Yba.checked }
namespace Rows
def none {H : Type} : Left H := { results := [], args := [] }

/-- 'tuck.LawS6436CWhole': WHATEVER THE INPUT: true; the input reads as it did. -/
def lawS6436CWholeSpec : ChangeSpec := { name := "lawS6436CWhole", fn := fun _ => fun
  | [d1, d2] => { results := [.lit (.bool true)], args := [d1, d2] }
  | _ => none }
def lawS6436CWholeRow : OpenClaim := { program := "ybulkecgo", sum := "384f218c7160071bb9a9f512e3e925a6e0352a4438007697a6f89012a00b8dab", func := "example.com/tuck/tuck.LawS6436CWhole", spec := "lawS6436CWhole", apart := false }
def LawS6436CWholeSaid : Prop := lawS6436CWholeRow.holds Yba.pinned (OpenSpec.ofChange lawS6436CWholeSpec)

/-- ITS FALSE NEIGHBOUR: 'it returns false'. Refute it at one input. -/
def lawS6436CWholeWrong : ChangeSpec := { name := "lawS6436CWhole", fn := fun _ => fun
  | [d1, d2] => { results := [.lit (.bool false)], args := [d1, d2] }
  | _ => none }
def LawS6436CWholeWrongFalsely : Prop := lawS6436CWholeRow.holds Yba.pinned (OpenSpec.ofChange lawS6436CWholeWrong)

end Rows
end Go.Proofs.Ybulkecgo
