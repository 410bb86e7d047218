/-
  No cell of these rows narrows 'for every input' (looked for: loops, veiled, ifaces, maps, wideKeys, modest, calm, conditions, laid).
  DERIVED. THE GIVEN ROWS OF THIS SEAT. 3 by the template 'for every input the law returns true; each argument reads behind the call as it read before'; 0 by the template 'total and deterministic' (their statements: YbulkecisTotals.lean).
  GIVEN WITH THE SEED: the statements are not yours to turn. If you find one false, say at which input.
  Laid BY PROGRAM, IN A SANDBOX (cutbox-rows.mjs): the forced cells as the released guide's own fill.sh prints them over the translation dcfdd2fa8c0fdadd… (all of the seat's roots in one cut). By AI agents, Wed Nov 11 2026. No macro, syntax, notation, axiom, sorry.
-/
import Derived.Test.YbulkecisChecked
import GoSem.Claim
import GoSem.ClaimJoined
import GoSem.ClaimMapViews
import Derived.JoinedTies
import Derived.KernelRfl
namespace Go.Proofs.Ybulkecis
/- THE CELL 'sum', in the pinned program and in every row, IS THE sha256 OF THE DUMP (.gsa) THAT YbulkecisProg.lean LOADS. Nothing in Lean hashes anything: it is a label: what it is worth is what the hold of that sum in a sandbox is worth. -/
noncomputable def Yba.pinned : Pinned := { name := "ybulkecis", sum := "dcfdd2fa8c0fdadd995f774b303690011e7c6d587a9bbce686ab2f5a066005ad", checked := Yba.checked }
namespace Rows
def none {H : Type} : Left H := { results := [], args := [] }

/-- 'schedule.LawS6440AWhole': WHATEVER THE INPUT: true; the input reads as it did. -/
def lawS6440AWholeSpec : ChangeSpec := { name := "lawS6440AWhole", fn := fun _ => fun
  | [d1, d2, d3] => { results := [.lit (.bool true)], args := [d1, d2, d3] }
  | _ => none }
def lawS6440AWholeRow : OpenClaim := { program := "ybulkecis", sum := "dcfdd2fa8c0fdadd995f774b303690011e7c6d587a9bbce686ab2f5a066005ad", func := "example.com/precedent/precedent/schedule.LawS6440AWhole", spec := "lawS6440AWhole", apart := false }
def LawS6440AWholeSaid : Prop := lawS6440AWholeRow.holds Yba.pinned (OpenSpec.ofChange lawS6440AWholeSpec)

/-- ITS FALSE NEIGHBOUR: 'it returns false'. Refute it at one input. -/
def lawS6440AWholeWrong : ChangeSpec := { name := "lawS6440AWhole", fn := fun _ => fun
  | [d1, d2, d3] => { results := [.lit (.bool false)], args := [d1, d2, d3] }
  | _ => none }
def LawS6440AWholeWrongFalsely : Prop := lawS6440AWholeRow.holds Yba.pinned (OpenSpec.ofChange lawS6440AWholeWrong)

/-- 'view.LawS6440BWhole': WHATEVER THE INPUT: true; the input reads as it did. -/
def lawS6440BWholeSpec : ChangeSpec := { name := "lawS6440BWhole", fn := fun _ => fun
  | [d1, d2, d3, d4] => { results := [.lit (.bool true)], args := [d1, d2, d3, d4] }
  | _ => none }
def lawS6440BWholeRow : OpenClaim := { program := "ybulkecis", sum := "dcfdd2fa8c0fdadd995f774b303690011e7c6d587a9bbce686ab2f5a066005ad", func := "example.com/precedent/precedent/view.LawS6440BWhole", spec := "lawS6440BWhole", unfollowed := true, recurses := true, apart := false }
def LawS6440BWholeSaid : Prop := lawS6440BWholeRow.holds Yba.pinned (OpenSpec.ofChange lawS6440BWholeSpec)

/-- ITS FALSE NEIGHBOUR: 'it returns false'. Refute it at one input. -/
def lawS6440BWholeWrong : ChangeSpec := { name := "lawS6440BWhole", fn := fun _ => fun
  | [d1, d2, d3, d4] => { results := [.lit (.bool false)], args := [d1, d2, d3, d4] }
  | _ => none }
def LawS6440BWholeWrongFalsely : Prop := lawS6440BWholeRow.holds Yba.pinned (OpenSpec.ofChange lawS6440BWholeWrong)

/-- 'view.LawS6440CWhole': WHATEVER THE INPUT: true; the input reads as it did. -/
def lawS6440CWholeSpec : ChangeSpec := { name := "lawS6440CWhole", fn := fun _ => fun
  | [d1, d2, d3, d4] => { results := [.lit (.bool true)], args := [d1, d2, d3, d4] }
  | _ => none }
def lawS6440CWholeRow : OpenClaim := { program := "ybulkecis", sum := "dcfdd2fa8c0fdadd995f774b303690011e7c6d587a9bbce686ab2f5a066005ad", func := "example.com/precedent/precedent/view.LawS6440CWhole", spec := "lawS6440CWhole", apart := false }
def LawS6440CWholeSaid : Prop := lawS6440CWholeRow.holds Yba.pinned (OpenSpec.ofChange lawS6440CWholeSpec)

/-- ITS FALSE NEIGHBOUR: 'it returns false'. Refute it at one input. -/
def lawS6440CWholeWrong : ChangeSpec := { name := "lawS6440CWhole", fn := fun _ => fun
  | [d1, d2, d3, d4] => { results := [.lit (.bool false)], args := [d1, d2, d3, d4] }
  | _ => none }
def LawS6440CWholeWrongFalsely : Prop := lawS6440CWholeRow.holds Yba.pinned (OpenSpec.ofChange lawS6440CWholeWrong)

end Rows
end Go.Proofs.Ybulkecis
