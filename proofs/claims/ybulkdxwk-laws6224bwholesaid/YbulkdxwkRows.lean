/-
  No cell of these rows narrows 'for every input' (looked for: loops, veiled, ifaces, maps, wideKeys, modest, calm, conditions, laid).
  DERIVED. THE GIVEN ROWS OF THIS SEAT. 1 by the template 'for every input the law returns true; each argument reads behind the call as it read before'; 0 by the template 'total and deterministic' (their statements: YbulkdxwkTotals.lean).
  GIVEN WITH THE SEED: the statements are not yours to turn. If you find one false, say at which input.
  Laid BY PROGRAM, IN A SANDBOX (cutbox-rows.mjs): the forced cells as the released guide's own fill.sh prints them over the translation 470b5324d55d36fb… (all of the seat's roots in one cut). By AI agents, Wed Nov 11 2026. No macro, syntax, notation, axiom, sorry.
-/
import Derived.Test.YbulkdxwkChecked
import GoSem.Claim
import GoSem.ClaimJoined
import GoSem.ClaimMapViews
import Derived.JoinedTies
import Derived.KernelRfl
namespace Go.Proofs.Ybulkdxwk
/- THE CELL 'sum', in the pinned program and in every row, IS THE sha256 OF THE DUMP (.gsa) THAT YbulkdxwkProg.lean LOADS. Nothing in Lean hashes anything: it is a label: what it is worth is what the hold of that sum in a sandbox is worth. -/
noncomputable def Yba.pinned : Pinned := { name := "ybulkdxwk", sum := "470b5324d55d36fbe579ee2d7d9535a5c2632e4d48f4abbb4a8d2330473e8799", checked := Yba.checked }
namespace Rows
def none {H : Type} : Left H := { results := [], args := [] }

/-- 'uts.LawS6224BWhole': WHATEVER THE INPUT: true; the input reads as it did. -/
def lawS6224BWholeSpec : ChangeSpec := { name := "lawS6224BWhole", fn := fun _ => fun
  | [d1, d2, d3, d4, d5, d6] => { results := [.lit (.bool true)], args := [d1, d2, d3, d4, d5, d6] }
  | _ => none }
def lawS6224BWholeRow : OpenClaim := { program := "ybulkdxwk", sum := "470b5324d55d36fbe579ee2d7d9535a5c2632e4d48f4abbb4a8d2330473e8799", func := "example.com/even-scheduler/even-scheduler/internal/uts.LawS6224BWhole", spec := "lawS6224BWhole", named := ["encoding/binary.BigEndian"], apart := false }
def LawS6224BWholeSaid : Prop := lawS6224BWholeRow.holds Yba.pinned (OpenSpec.ofChange lawS6224BWholeSpec)

/-- ITS FALSE NEIGHBOUR: 'it returns false'. Refute it at one input. -/
def lawS6224BWholeWrong : ChangeSpec := { name := "lawS6224BWhole", fn := fun _ => fun
  | [d1, d2, d3, d4, d5, d6] => { results := [.lit (.bool false)], args := [d1, d2, d3, d4, d5, d6] }
  | _ => none }
def LawS6224BWholeWrongFalsely : Prop := lawS6224BWholeRow.holds Yba.pinned (OpenSpec.ofChange lawS6224BWholeWrong)

end Rows
end Go.Proofs.Ybulkdxwk
