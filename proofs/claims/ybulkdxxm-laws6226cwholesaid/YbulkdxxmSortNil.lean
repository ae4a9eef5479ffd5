/-
  slices.Sort of no element, for the law S6226C: the walk of the kit's worked sort (pdqsortOrdered at int), turned to this program's functions at uint64. The plain functions and their laws are the library's.
-/
import Derived.Test.YbulkdxxmRows
import Derived.Test.YbulkdxxmShelf
import Derived.Sort.WalkA14
namespace Go.Proofs.Ybulkdxxm
open Go.RowKit Go.Sort Go.Proofs

theorem U.insertionSort_int_nil_u64 (p : Option Addr) (cap : Nat) (w : World) :
    Calls Yba.prog 19 #[.slice p 0 cap, .int .i64 0, .int .i64 0] w fun e w' => e = .returned (.tuple #[]) ∧ w' = w := by
  go_enter Yba.func19, Yba.ntmps19
  go_wp2
  refine wp_loop_rounds 1 ?_
  rw [rounds_succ]
  go_wp2
  go_end0
  exact ⟨rfl, rfl⟩

set_option maxRecDepth 100000 in
theorem U.pdqsort_int_nil_u64 (p : Option Addr) (cap : Nat) (w : World) :
    Calls Yba.prog 14 #[.slice p 0 cap, .int .i64 0, .int .i64 0, .int .i64 0] w fun e w' => e = .returned (.tuple #[]) ∧ w' = w := by
  go_enter Yba.func14, Yba.ntmps14
  go_wp2
  refine wp_loop_rounds 1 ?_
  rw [rounds_succ]
  go_wp2_with (first | (go_at_call 19; refine (U.insertionSort_int_nil_u64 p cap _).mono ?_; rintro e w' ⟨rfl, rfl⟩))
  refine bodyPost_ret (results_none rfl _ _ _) rfl ?_
  exact ⟨rfl, rfl⟩

set_option maxRecDepth 100000 in
theorem U.Sort_int_nil_u64 (p : Option Addr) (cap : Nat) (w : World) :
    Calls Yba.prog 9 #[.slice p 0 cap] w fun e w' => e = .returned (.tuple #[]) ∧ w' = w := by
  have hLen : ∀ w, Calls Yba.prog 15 #[.int .u64 0] w fun e w' => e = .returned (.int .i64 0) ∧ w' = w := fun w => Yba.bits_Len 0 w (by omega) (by omega)
  go_enter Yba.func9, Yba.ntmps9
  go_wp2_with (first
    | (go_at_call 15; refine (hLen _).mono ?_; rintro e w' ⟨rfl, rfl⟩)
    | (go_at_call 14; refine (U.pdqsort_int_nil_u64 p cap _).mono ?_; rintro e w' ⟨rfl, rfl⟩))
  go_end0
  exact ⟨rfl, rfl⟩
end Go.Proofs.Ybulkdxxm
