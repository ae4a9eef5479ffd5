/-
  No cell of these rows narrows 'for every input' (looked for: loops, veiled, ifaces, maps, wideKeys, modest, calm, conditions, laid).
  DERIVED. THE GIVEN ROWS OF THIS SEAT. 2 by the template 'for every input the law returns true; each argument reads behind the call as it read before'; 0 by the template 'total and deterministic' (their statements: YbulkdxxmTotals.lean).
  GIVEN WITH THE SEED: the statements are not yours to turn. If you find one false, say at which input.
  Laid BY PROGRAM, IN A SANDBOX (cutbox-rows.mjs): the forced cells as the released guide's own fill.sh prints them over the translation d0ba2ed77be11b58… (all of the seat's roots in one cut). By AI agents, Wed Nov 11 2026. No macro, syntax, notation, axiom, sorry.
-/
import Derived.Test.YbulkdxxmChecked
import GoSem.Claim
import GoSem.ClaimJoined
import GoSem.ClaimMapViews
import Derived.JoinedTies
import Derived.KernelRfl
namespace Go.Proofs.Ybulkdxxm
/- THE CELL 'sum', in the pinned program and in every row, IS THE sha256 OF THE DUMP (.gsa) THAT YbulkdxxmProg.lean LOADS. Nothing in Lean hashes anything: it is a label: what it is worth is what the hold of that sum in a sandbox is worth. -/
noncomputable def Yba.pinned : Pinned := { name := "ybulkdxxm", sum := "d0ba2ed77be11b58bef81e04dda7c896927df99416502aa122c50306dee1296e", checked := Yba.checked }
namespace Rows
def none {H : Type} : Left H := { results := [], args := [] }

/-- 'gofathom.LawS6226AWhole': WHATEVER THE INPUT: true; the input reads as it did. -/
def lawS6226AWholeSpec : ChangeSpec := { name := "lawS6226AWhole", fn := fun _ => fun
  | [d1, d2] => { results := [.lit (.bool true)], args := [d1, d2] }
  | _ => none }
def lawS6226AWholeRow : OpenClaim := { program := "ybulkdxxm", sum := "d0ba2ed77be11b58bef81e04dda7c896927df99416502aa122c50306dee1296e", func := "example.com/gofathom/gofathom.LawS6226AWhole", spec := "lawS6226AWhole", unfollowed := true, recurses := true, apart := false }
def LawS6226AWholeSaid : Prop := lawS6226AWholeRow.holds Yba.pinned (OpenSpec.ofChange lawS6226AWholeSpec)

/-- ITS FALSE NEIGHBOUR: 'it returns false'. Refute it at one input. -/
def lawS6226AWholeWrong : ChangeSpec := { name := "lawS6226AWhole", fn := fun _ => fun
  | [d1, d2] => { results := [.lit (.bool false)], args := [d1, d2] }
  | _ => none }
def LawS6226AWholeWrongFalsely : Prop := lawS6226AWholeRow.holds Yba.pinned (OpenSpec.ofChange lawS6226AWholeWrong)

/-- 'gofathom.LawS6226CWhole': WHATEVER THE INPUT: true; the input reads as it did. -/
def lawS6226CWholeSpec : ChangeSpec := { name := "lawS6226CWhole", fn := fun _ => fun
  | [d1, d2, d3, d4, d5] => { results := [.lit (.bool true)], args := [d1, d2, d3, d4, d5] }
  | _ => none }
def lawS6226CWholeRow : OpenClaim := { program := "ybulkdxxm", sum := "d0ba2ed77be11b58bef81e04dda7c896927df99416502aa122c50306dee1296e", func := "example.com/gofathom/gofathom.LawS6226CWhole", spec := "lawS6226CWhole", unfollowed := true, recurses := true, apart := false }
def LawS6226CWholeSaid : Prop := lawS6226CWholeRow.holds Yba.pinned (OpenSpec.ofChange lawS6226CWholeSpec)

/-- ITS FALSE NEIGHBOUR: 'it returns false'. Refute it at one input. -/
def lawS6226CWholeWrong : ChangeSpec := { name := "lawS6226CWhole", fn := fun _ => fun
  | [d1, d2, d3, d4, d5] => { results := [.lit (.bool false)], args := [d1, d2, d3, d4, d5] }
  | _ => none }
def LawS6226CWholeWrongFalsely : Prop := lawS6226CWholeRow.holds Yba.pinned (OpenSpec.ofChange lawS6226CWholeWrong)

end Rows
end Go.Proofs.Ybulkdxxm
