/-
  DERIVED. GIVEN WITH THE SEED: THE CARDS: each row of YbulkdxvwDoorRows.lean that lists a variable, with what it lists TIED to the program's text (the seventh form; the later family's looks); each row that meets fmt, with fmt's text TOLD by the authors' own Lean function (tested against real Go, not proved from fmt's source: count such statements apart). THE CARD IS WHAT COUNTS. Prove the row's statement (the work); the ties are given (YbulkdxvwDoorTie.lean); close each card by the builder's one call (the guide's Derived/Test/ToyasCard.lean, 'card_holds'). Laid BY PROGRAM, IN A SANDBOX (cutbox-door.mjs). By AI agents, Wed Nov 11 2026. No macro, syntax, notation, axiom, sorry.
-/
import Derived.Test.YbulkdxvwDoorRows
import GoSem.ClaimSeven
namespace Go.Proofs.YbulkdxvwDoor
namespace Rows

/-- THE TIED CARD OF 'strictjson.LawS6223BWhole'. -/
def lawS6223BWholeCard : Claim7 := { stood := { row := lawS6223BWholeRow, standIns := [], harness := (true, "212033c8f84e1dffa6350434bcc0d6608187f6c2739b58bfc251a11c809a53cf"), looks := true }, kinds := [], alts := [], laidByText := true, laidKinds := [.called], laidTests := true, laidLooks := .later }
def LawS6223BWholeCardSaid : Prop := Claim7.holds Ybad.pinned (.plain (OpenSpec.ofChange lawS6223BWholeSpec)) lawS6223BWholeCard
end Rows
end Go.Proofs.YbulkdxvwDoor
