/-
  No cell of these rows narrows 'for every input' (looked for: loops, veiled, ifaces, maps, wideKeys, modest, calm, conditions, laid).
  DERIVED. THE GIVEN ROWS OF THIS SEAT. 2 by the template 'for every input the law returns true; each argument reads behind the call as it read before'; 0 by the template 'total and deterministic' (their statements: YbulkdxzqTotals.lean).
  GIVEN WITH THE SEED: the statements are not yours to turn. If you find one false, say at which input.
  Laid BY PROGRAM, IN A SANDBOX (cutbox-rows.mjs): the forced cells as the released guide's own fill.sh prints them over the translation d21ac2bd0f41316b… (all of the seat's roots in one cut). By AI agents, Wed Nov 11 2026. No macro, syntax, notation, axiom, sorry.
-/
import Derived.Test.YbulkdxzqChecked
import GoSem.Claim
import GoSem.ClaimJoined
import GoSem.ClaimMapViews
import Derived.JoinedTies
import Derived.KernelRfl
namespace Go.Proofs.Ybulkdxzq
/- THE CELL 'sum', in the pinned program and in every row, IS THE sha256 OF THE DUMP (.gsa) THAT YbulkdxzqProg.lean LOADS. Nothing in Lean hashes anything: it is a label: what it is worth is what the hold of that sum in a sandbox is worth. -/
noncomputable def Yba.pinned : Pinned := { name := "ybulkdxzq", sum := "d21ac2bd0f41316bc4feca3c7aa833e52dab99b6179b7bb43bb87d01299d81ce", checked := Yba.checked }
namespace Rows
def none {H : Type} : Left H := { results := [], args := [] }

/-- 'keyfold.LawS6230AWhole': WHATEVER THE INPUT: true; the input reads as it did. -/
def lawS6230AWholeSpec : ChangeSpec := { name := "lawS6230AWhole", fn := fun _ => fun
  | [d1, d2, d3, d4, d5] => { results := [.lit (.bool true)], args := [d1, d2, d3, d4, d5] }
  | _ => none }
def lawS6230AWholeRow : OpenClaim := { program := "ybulkdxzq", sum := "d21ac2bd0f41316bc4feca3c7aa833e52dab99b6179b7bb43bb87d01299d81ce", func := "example.com/keyfold/keyfold.LawS6230AWhole", spec := "lawS6230AWhole", apart := false }
def LawS6230AWholeSaid : Prop := lawS6230AWholeRow.holds Yba.pinned (OpenSpec.ofChange lawS6230AWholeSpec)

/-- ITS FALSE NEIGHBOUR: 'it returns false'. Refute it at one input. -/
def lawS6230AWholeWrong : ChangeSpec := { name := "lawS6230AWhole", fn := fun _ => fun
  | [d1, d2, d3, d4, d5] => { results := [.lit (.bool false)], args := [d1, d2, d3, d4, d5] }
  | _ => none }
def LawS6230AWholeWrongFalsely : Prop := lawS6230AWholeRow.holds Yba.pinned (OpenSpec.ofChange lawS6230AWholeWrong)

/-- 'keyfold.LawS6230CWhole': WHATEVER THE INPUT: true; the input reads as it did. -/
def lawS6230CWholeSpec : ChangeSpec := { name := "lawS6230CWhole", fn := fun _ => fun
  | [d1, d2, d3, d4, d5] => { results := [.lit (.bool true)], args := [d1, d2, d3, d4, d5] }
  | _ => none }
def lawS6230CWholeRow : OpenClaim := { program := "ybulkdxzq", sum := "d21ac2bd0f41316bc4feca3c7aa833e52dab99b6179b7bb43bb87d01299d81ce", func := "example.com/keyfold/keyfold.LawS6230CWhole", spec := "lawS6230CWhole", inPlace := ["sync/atomic.StoreInt64", "(*internal/sync.Mutex).Lock", "internal/race.Disable", "sync/atomic.CompareAndSwapInt32", "internal/race.Enable", "internal/race.Acquire", "(*internal/sync.Mutex).lockSlow", "internal/sync.runtime_canSpin", "internal/sync.runtime_doSpin", "internal/sync.throw", "internal/sync.runtime_nanotime", "internal/sync.runtime_SemacquireMutex", "sync/atomic.AddInt32", "sync/atomic.StoreUint32", "(*internal/sync.Mutex).Unlock", "internal/race.ReleaseMerge", "(*internal/sync.Mutex).unlockSlow", "internal/sync.fatal", "internal/sync.runtime_Semrelease", "sync/atomic.LoadInt64", "sync/atomic.LoadUint32"], unfollowed := true, recurses := true, apart := false }
def LawS6230CWholeSaid : Prop := lawS6230CWholeRow.holds Yba.pinned (OpenSpec.ofChange lawS6230CWholeSpec)

/-- ITS FALSE NEIGHBOUR: 'it returns false'. Refute it at one input. -/
def lawS6230CWholeWrong : ChangeSpec := { name := "lawS6230CWhole", fn := fun _ => fun
  | [d1, d2, d3, d4, d5] => { results := [.lit (.bool false)], args := [d1, d2, d3, d4, d5] }
  | _ => none }
def LawS6230CWholeWrongFalsely : Prop := lawS6230CWholeRow.holds Yba.pinned (OpenSpec.ofChange lawS6230CWholeWrong)

end Rows
end Go.Proofs.Ybulkdxzq
