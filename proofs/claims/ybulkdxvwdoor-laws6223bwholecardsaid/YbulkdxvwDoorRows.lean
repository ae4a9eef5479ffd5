/-
  NARROWER THAN 'FOR EVERY INPUT', by the rows' own cells (each row's printed sentence says how): LawS6223BWhole: ifaces, laid.
  DERIVED. THE GIVEN ROWS OF THIS SEAT. 1 by the template 'for every input the law returns true; each argument reads behind the call as it read before'; 0 by the template 'total and deterministic' (their statements: YbulkdxvwDoorTotals.lean).
  GIVEN WITH THE SEED: the statements are not yours to turn. If you find one false, say at which input.
  Laid BY PROGRAM, IN A SANDBOX (cutbox-rows.mjs): the forced cells as the released guide's own fill.sh prints them over the translation 030167430111a36f… (all of the seat's roots in one cut). By AI agents, Wed Nov 11 2026. No macro, syntax, notation, axiom, sorry.
-/
import Derived.Test.YbulkdxvwDoorChecked
import GoSem.Claim
import GoSem.ClaimJoined
import GoSem.ClaimMapViews
import Derived.JoinedTies
import Derived.KernelRfl
namespace Go.Proofs.YbulkdxvwDoor
/- THE CELL 'sum', in the pinned program and in every row, IS THE sha256 OF THE DUMP (.gsa) THAT YbulkdxvwDoorProg.lean LOADS. Nothing in Lean hashes anything: it is a label: what it is worth is what the hold of that sum in a sandbox is worth. -/
noncomputable def Ybad.pinned : Pinned := { name := "ybulkdxvwdoor", sum := "030167430111a36f02db980c388768ec59ace8a3d915359d5b5341f54b17a9cd", checked := Ybad.checked }
namespace Rows
def none {H : Type} : Left H := { results := [], args := [] }

/- WHAT THE LISTED PACKAGE-LEVEL VARIABLES READ AS WHEN THE CALL BEGINS. Each datum BY PROGRAM (the guide's laid-datum.mjs) off the statement by which the dump's own 'gosem.cut.vars' lays the variable. In a bare row this is a premise. The card (YbulkdxvwDoorCards.lean) ties it to the program's text. -/
def laid_example_com_cambium_cambium_internal_strictjson_errTooDeep {H : Type} : DataW H := .iface "*errors.errorString" (.ptr (.agg [.lit (.string [74, 83, 79, 78, 32, 110, 101, 115, 116, 101, 100, 32, 116, 111, 111, 32, 100, 101, 101, 112, 108, 121])]))

/-- 'strictjson.LawS6223BWhole': WHATEVER THE INPUT: true; the input reads as it did. -/
def lawS6223BWholeSpec : ChangeSpec := { name := "lawS6223BWhole", vars := ["example.com/cambium/cambium/internal/strictjson.errTooDeep"], fn := fun _ => fun
  | [d1, d2, d3, d4, d5, g1] => { results := [.lit (.bool true)], args := [d1, d2, d3, d4, d5], vars := [g1] }
  | _ => none }
def lawS6223BWholeRow : OpenClaim := { program := "ybulkdxvwdoor", sum := "030167430111a36f02db980c388768ec59ace8a3d915359d5b5341f54b17a9cd", func := "example.com/cambium/cambium/internal/strictjson.LawS6223BWhole", spec := "lawS6223BWhole", named := ["example.com/cambium/cambium/internal/strictjson.errTooDeep"], ifaces := true, apart := false, laid := [("example.com/cambium/cambium/internal/strictjson.errTooDeep", laid_example_com_cambium_cambium_internal_strictjson_errTooDeep)] }
def LawS6223BWholeSaid : Prop := lawS6223BWholeRow.holds Ybad.pinned (OpenSpec.ofChange lawS6223BWholeSpec)

/-- ITS FALSE NEIGHBOUR: 'it returns false'. Refute it at one input. -/
def lawS6223BWholeWrong : ChangeSpec := { name := "lawS6223BWhole", vars := ["example.com/cambium/cambium/internal/strictjson.errTooDeep"], fn := fun _ => fun
  | [d1, d2, d3, d4, d5, g1] => { results := [.lit (.bool false)], args := [d1, d2, d3, d4, d5], vars := [g1] }
  | _ => none }
def LawS6223BWholeWrongFalsely : Prop := lawS6223BWholeRow.holds Ybad.pinned (OpenSpec.ofChange lawS6223BWholeWrong)

end Rows
end Go.Proofs.YbulkdxvwDoor
