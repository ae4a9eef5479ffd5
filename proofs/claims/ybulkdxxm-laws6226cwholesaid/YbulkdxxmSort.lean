/-
  slices.Sort, for the law S6226C: the walk of the kit's worked sort (pdqsortOrdered at int), turned to this program's functions at uint64. The plain functions and their laws are the library's.
-/
import Derived.Test.YbulkdxxmRows
import Derived.Test.YbulkdxxmSortPdq
import Derived.Test.YbulkdxxmShelf
import Derived.Sort.WalkA14
namespace Go.Proofs.Ybulkdxxm
open Go.RowKit Go.Sort Go.Proofs

/-- The library's plain laws, at '<' on the integers. -/
theorem plainLaws : Plain13 where
  swo := swo_ltInt
  ins := insertionSort_holds
  par := partialInsertionSort_holds
  prt := partition_holds _
  peq := partitionEqual_holds _
  pdq := pdq_sorts _

set_option maxRecDepth 100000 in
theorem U.Sort_u64 (blk off cap : Nat) (d : Array Int) (w : World) (hH : Holds (Value.int .u64) w blk off d) (hblk : blk < w.heap.size) (hsz : d.size < 4611686018427387904) :
    Calls Yba.prog 9 #[.slice (some ⟨blk, off, none⟩) d.size cap] w fun e w' => e = .returned (.tuple #[]) ∧ ∃ n os, w' = grow (putRow (Value.int .u64) (Sort.ahead w n) blk off (Sort.sort ltInt d)) os := by
  have HH : Hid (Holds (Value.int .u64) w blk off d) := hH
  clear hH
  have hLen : ∀ w, Calls Yba.prog 15 #[.int .u64 (d.size : Int)] w fun e w' => e = .returned (.int .i64 (bitsLen d.size : Nat)) ∧ w' = w := fun w => by
    have h := Yba.bits_Len (d.size : Int) w (by omega) (by omega)
    rwa [Int.toNat_natCast, bitLen_eq _ (by omega)] at h
  have hk : bitsLen d.size ≤ 62 := (bitsLen_le_iff d.size 62).2 (by omega)
  go_enter Yba.func9, Yba.ntmps9
  go_wp2_with (first
    | (go_at_call 15; refine (hLen _).mono ?_; rintro e w' ⟨rfl, rfl⟩)
    | (go_at_call 14; refine (U.pdqsort_u64 plainLaws (d.size - 0 + 1) blk off cap 0 d.size (bitsLen d.size) d _ (by omega) (by exact HH.out) (by exact hblk) (Nat.zero_le _) (Nat.le_refl _) hsz (by omega) (Or.inl rfl)).mono ?_; rintro e w' ⟨rfl, n, os, rfl⟩))
  go_end0
  exact ⟨rfl, n, os, rfl⟩

/-- slices.Sort at []uint64: the cells then hold the sorted list. -/
theorem U.slices_Sort_u64 (blk off cap : Nat) (zs : List Int) (w : World) (hH : Holds (Value.int .u64) w blk off zs.toArray) (hblk : blk < w.heap.size) (hsz : zs.length < 4611686018427387904) :
    Calls Yba.prog 9 #[.slice (some ⟨blk, off, none⟩) zs.length cap] w fun e w' =>
      e = .returned (.tuple #[]) ∧ ∃ n os, w' = grow (putRow (Value.int .u64) (Sort.ahead w n) blk off (zs.mergeSort fun x y => decide (x ≤ y)).toArray) os := by
  have h := U.Sort_u64 blk off cap zs.toArray w hH hblk (by simpa using hsz)
  have e : Sort.sort ltInt zs.toArray = (zs.mergeSort fun x y => decide (x ≤ y)).toArray := by rw [← sortInt zs]
  rw [e] at h
  simpa using h

end Go.Proofs.Ybulkdxxm
