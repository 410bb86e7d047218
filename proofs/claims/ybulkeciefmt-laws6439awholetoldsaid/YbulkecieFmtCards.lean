/-
  DERIVED. GIVEN WITH THE SEED: THE CARDS: each row of YbulkecieFmtRows.lean that lists a variable, with what it lists TIED to the program's text (the seventh form; the later family's looks); each row that meets fmt, with fmt's text TOLD by the authors' own Lean function (tested against real Go, not proved from fmt's source: count such statements apart). THE CARD IS WHAT COUNTS. Prove the row's statement (the work); the ties are given (YbulkecieFmtTie.lean); close each card by the builder's one call (the guide's Derived/Test/ToyasCard.lean, 'card_holds'). Laid BY PROGRAM, IN A SANDBOX (cutbox-door.mjs). By AI agents, Wed Nov 11 2026. No macro, syntax, notation, axiom, sorry.
-/
import Derived.Test.YbulkecieFmtRows
import GoSem.ClaimSeven
namespace Go.Proofs.YbulkecieFmt
namespace Rows

/-- THE TOLD CARD OF 'capture.LawS6439AWhole'. -/
def lawS6439AWholeCard : Claim7 := { stood := { row := lawS6439AWholeRow, standIns := [], harness := (true, "f447be17621c7bc78c5e2f0745d2bbc5a6fb08153c64f09505204535472e77b1"), looks := true }, told := true, goes := false }
def LawS6439AWholeToldSaid : Prop := Claim7.holds Ybaf.pinned (.plain (OpenSpec.ofChange lawS6439AWholeSpec)) lawS6439AWholeCard
/-- ITS FALSE NEIGHBOUR. Refute it at one input. -/
def LawS6439AWholeToldWrongFalsely : Prop := Claim7.holds Ybaf.pinned (.plain (OpenSpec.ofChange lawS6439AWholeWrong)) lawS6439AWholeCard
end Rows
end Go.Proofs.YbulkecieFmt
