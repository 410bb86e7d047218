/-
  DERIVED. GIVEN WITH THE SEED: THE CARDS: each row of YbulkecgoDoorRows.lean that lists a variable, with what it lists TIED to the program's text (the seventh form; the later family's looks); each row that meets fmt, with fmt's text TOLD by the authors' own Lean function (tested against real Go, not proved from fmt's source: count such statements apart). THE CARD IS WHAT COUNTS. Prove the row's statement (the work); the ties are given (YbulkecgoDoorTie.lean); close each card by the builder's one call (the guide's Derived/Test/ToyasCard.lean, 'card_holds'). Laid BY PROGRAM, IN A SANDBOX (cutbox-door.mjs). By AI agents, Wed Nov 11 2026. No macro, syntax, notation, axiom, sorry.
-/
import Derived.Test.YbulkecgoDoorRows
import GoSem.ClaimSeven
namespace Go.Proofs.YbulkecgoDoor
namespace Rows

/-- THE TIED CARD OF 'tuck.LawS6436AWhole'. -/
def lawS6436AWholeCard : Claim7 := { stood := { row := lawS6436AWholeRow, standIns := [], harness := (true, "329f6c8cb514570f95d2199d1b06bc3d450ce89ea6a678e086ad3d97f291a7d7"), looks := false }, kinds := [], alts := [], laidByText := true, laidKinds := [.data, .data, .data], laidTests := true, laidLooks := .later }
def LawS6436AWholeCardSaid : Prop := Claim7.holds Ybad.pinned (.plain (OpenSpec.ofChange lawS6436AWholeSpec)) lawS6436AWholeCard

/-- THE TIED CARD OF 'tuck.LawS6436BWhole'. -/
def lawS6436BWholeCard : Claim7 := { stood := { row := lawS6436BWholeRow, standIns := [], harness := (true, "329f6c8cb514570f95d2199d1b06bc3d450ce89ea6a678e086ad3d97f291a7d7"), looks := false }, kinds := [], alts := [], laidByText := true, laidKinds := [.data, .data, .data], laidTests := true, laidLooks := .later }
def LawS6436BWholeCardSaid : Prop := Claim7.holds Ybad.pinned (.plain (OpenSpec.ofChange lawS6436BWholeSpec)) lawS6436BWholeCard
end Rows
end Go.Proofs.YbulkecgoDoor
