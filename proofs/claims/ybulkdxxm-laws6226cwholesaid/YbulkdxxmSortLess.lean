/-
  cmp.Less, for the law S6226C: the walk of the kit's worked sort (pdqsortOrdered at int), turned to this program's functions at uint64. The plain functions and their laws are the library's.
-/
import Derived.Test.YbulkdxxmRows
import Derived.Sort.Walk0
import Derived.WalkKit
namespace Go.Proofs.Ybulkdxxm
open Go.RowKit Go.Sort Go.Proofs

abbrev encU : Int → Value := fun x => Value.int .u64 x

set_option maxHeartbeats 1000000 in
theorem U.cmp_isNaN_u64 (x : Int) (w : World) : Calls Yba.prog 30 #[.int .u64 x] w fun e w' => e = .returned (.bool false) ∧ w' = w := by
  go_enter Yba.func30, Yba.ntmps30
  go_wp2
  go_ret
  exact ⟨by simp, rfl⟩

set_option maxHeartbeats 1000000 in
theorem U.cmp_Less_u64 (x y : Int) (w : World) : Calls Yba.prog 25 #[.int .u64 x, .int .u64 y] w fun e w' => e = .returned (.bool (Sort.ltInt x y)) ∧ w' = w := by
  go_enter Yba.func25, Yba.ntmps25
  go_wp2_with (go_at_call 30; refine (U.cmp_isNaN_u64 _ _).mono ?_; rintro e w' ⟨rfl, rfl⟩)
  go_ret
  exact ⟨rfl, rfl⟩
end Go.Proofs.Ybulkdxxm
