/-
  No cell of these rows narrows 'for every input' (looked for: loops, veiled, ifaces, maps, wideKeys, modest, calm, conditions, laid).
  DERIVED. THE GIVEN ROWS OF THIS SEAT. 1 by the template 'for every input the law returns true; each argument reads behind the call as it read before'; 0 by the template 'total and deterministic' (their statements: YbulkecieFmtTotals.lean).
  GIVEN WITH THE SEED: the statements are not yours to turn. If you find one false, say at which input.
  Laid BY PROGRAM, IN A SANDBOX (cutbox-rows.mjs): the forced cells as the released guide's own fill.sh prints them over the translation 3761f4e9432dd41e… (all of the seat's roots in one cut). By AI agents, Wed Nov 11 2026. No macro, syntax, notation, axiom, sorry.
-/
import Derived.Test.YbulkecieFmtChecked
import GoSem.Claim
import GoSem.ClaimJoined
import GoSem.ClaimMapViews
import Derived.JoinedTies
import Derived.KernelRfl
namespace Go.Proofs.YbulkecieFmt
/- THE CELL 'sum', in the pinned program and in every row, IS THE sha256 OF THE DUMP (.gsa) THAT YbulkecieFmtProg.lean LOADS. Nothing in Lean hashes anything: it is a label: what it is worth is what the hold of that sum in a sandbox is worth. -/
noncomputable def Ybaf.pinned : Pinned := { name := "ybulkeciefmt", sum := "3761f4e9432dd41e633ac6790cb02ced51283599bde3479c31fc82989f1cbe21", checked := Ybaf.checked }
namespace Rows
def none {H : Type} : Left H := { results := [], args := [] }

/-- 'capture.LawS6439AWhole': WHATEVER THE INPUT: true; the input reads as it did. -/
def lawS6439AWholeSpec : ChangeSpec := { name := "lawS6439AWhole", fn := fun _ => fun
  | [d1, d2, d3, d4] => { results := [.lit (.bool true)], args := [d1, d2, d3, d4] }
  | _ => none }
def lawS6439AWholeRow : OpenClaim := { program := "ybulkeciefmt", sum := "3761f4e9432dd41e633ac6790cb02ced51283599bde3479c31fc82989f1cbe21", func := "example.com/gatewarden/gatewarden/internal/capture.LawS6439AWhole", spec := "lawS6439AWhole", stops := ["fmt.errorf"], inPlace := ["fmt.errorf"], unfollowed := true, recurses := true, named := ["encoding/binary.LittleEndian", "encoding/binary.BigEndian"], apart := false }
/-- NO THEOREM (fmt's text is open here; it may be false): for the released tool's asking of the row's closed facts alone. THE STATEMENT IS 'LawS6439AWholeToldSaid' (YbulkecieFmtCards.lean). -/
def LawS6439AWholeFormAsk : Prop := lawS6439AWholeRow.holds Ybaf.pinned (OpenSpec.ofChange lawS6439AWholeSpec)

/-- ITS FALSE NEIGHBOUR: 'it returns false'. Refute it at one input. -/
def lawS6439AWholeWrong : ChangeSpec := { name := "lawS6439AWhole", fn := fun _ => fun
  | [d1, d2, d3, d4] => { results := [.lit (.bool false)], args := [d1, d2, d3, d4] }
  | _ => none }
def LawS6439AWholeWrongFormAsk : Prop := lawS6439AWholeRow.holds Ybaf.pinned (OpenSpec.ofChange lawS6439AWholeWrong)

end Rows
end Go.Proofs.YbulkecieFmt
