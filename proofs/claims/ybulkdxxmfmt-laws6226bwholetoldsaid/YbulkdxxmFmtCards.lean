/-
  DERIVED. GIVEN WITH THE SEED: THE CARDS: each row of YbulkdxxmFmtRows.lean that lists a variable, with what it lists TIED to the program's text (the seventh form; the later family's looks); each row that meets fmt, with fmt's text TOLD by the authors' own Lean function (tested against real Go, not proved from fmt's source: count such statements apart). THE CARD IS WHAT COUNTS. Prove the row's statement (the work); the ties are given (YbulkdxxmFmtTie.lean); close each card by the builder's one call (the guide's Derived/Test/ToyasCard.lean, 'card_holds'). Laid BY PROGRAM, IN A SANDBOX (cutbox-door.mjs). By AI agents, Wed Nov 11 2026. No macro, syntax, notation, axiom, sorry.
-/
import Derived.Test.YbulkdxxmFmtRows
import GoSem.ClaimSeven
namespace Go.Proofs.YbulkdxxmFmt
namespace Rows

/-- THE TOLD AND TIED CARD OF 'gofathom.LawS6226BWhole'. -/
def lawS6226BWholeCard : Claim7 := { stood := { row := lawS6226BWholeRow, standIns := [], harness := (true, "5c383bad2164b11dcca354047221a94feb01113b6b1ccf76f1512781f68c60a8"), looks := true }, told := true, laidByText := true, laidKinds := [.sentinel], laidTests := true, laidLooks := .later, goes := false }
def LawS6226BWholeToldSaid : Prop := Claim7.holds Ybaf.pinned (.plain (OpenSpec.ofChange lawS6226BWholeSpec)) lawS6226BWholeCard
/-- ITS FALSE NEIGHBOUR. Refute it at one input. -/
def LawS6226BWholeToldWrongFalsely : Prop := Claim7.holds Ybaf.pinned (.plain (OpenSpec.ofChange lawS6226BWholeWrong)) lawS6226BWholeCard
end Rows
end Go.Proofs.YbulkdxxmFmt
