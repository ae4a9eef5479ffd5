/-
  No cell of these rows narrows 'for every input' (looked for: loops, veiled, ifaces, maps, wideKeys, modest, calm, conditions, laid).
  DERIVED. THE GIVEN ROWS OF THIS SEAT. 1 by the template 'for every input the law returns true; each argument reads behind the call as it read before'; 0 by the template 'total and deterministic' (their statements: YbulkdxvwTotals.lean).
  GIVEN WITH THE SEED: the statements are not yours to turn. If you find one false, say at which input.
  Laid BY PROGRAM, IN A SANDBOX (cutbox-rows.mjs): the forced cells as the released guide's own fill.sh prints them over the translation 00486893cac6bf55… (all of the seat's roots in one cut). By AI agents, Wed Nov 11 2026. No macro, syntax, notation, axiom, sorry.
-/
import Derived.Test.YbulkdxvwChecked
import GoSem.Claim
import GoSem.ClaimJoined
import GoSem.ClaimMapViews
import Derived.JoinedTies
import Derived.KernelRfl
namespace Go.Proofs.Ybulkdxvw
/- THE CELL 'sum', in the pinned program and in every row, IS THE sha256 OF THE DUMP (.gsa) THAT YbulkdxvwProg.lean LOADS. Nothing in Lean hashes anything: it is a label: what it is worth is what the hold of that sum in a sandbox is worth. -/
noncomputable def Yba.pinned : Pinned := { name := "ybulkdxvw", sum := "00486893cac6bf5561223661a9602048be2bb9176d153ec1bbfbde2b2b4a054d", checked := Yba.checked }
namespace Rows
def none {H : Type} : Left H := { results := [], args := [] }

/-- 'strictjson.LawS6223AWhole': WHATEVER THE INPUT: true; the input reads as it did. -/
def lawS6223AWholeSpec : ChangeSpec := { name := "lawS6223AWhole", fn := fun _ => fun
  | [d1, d2, d3, d4] => { results := [.lit (.bool true)], args := [d1, d2, d3, d4] }
  | _ => none }
def lawS6223AWholeRow : OpenClaim := { program := "ybulkdxvw", sum := "00486893cac6bf5561223661a9602048be2bb9176d153ec1bbfbde2b2b4a054d", func := "example.com/cambium/cambium/internal/strictjson.LawS6223AWhole", spec := "lawS6223AWhole", apart := false }
def LawS6223AWholeSaid : Prop := lawS6223AWholeRow.holds Yba.pinned (OpenSpec.ofChange lawS6223AWholeSpec)

/-- ITS FALSE NEIGHBOUR: 'it returns false'. Refute it at one input. -/
def lawS6223AWholeWrong : ChangeSpec := { name := "lawS6223AWhole", fn := fun _ => fun
  | [d1, d2, d3, d4] => { results := [.lit (.bool false)], args := [d1, d2, d3, d4] }
  | _ => none }
def LawS6223AWholeWrongFalsely : Prop := lawS6223AWholeRow.holds Yba.pinned (OpenSpec.ofChange lawS6223AWholeWrong)

end Rows
end Go.Proofs.Ybulkdxvw
