/-
  time.Time.Add at the zero time, for the law S6230A.
-/
import Derived.Test.YbulkdxzqSmall
import Derived.Laws.BitsAllLaws
namespace Go.Proofs.Ybulkdxzq
open Go.RowKit

theorem and_mono (n : Nat) (hn : n < 1073741824) : bits .and .u64 (n : Int) 9223372036854775808 = 0 := by
  have := u64_and_nat n 9223372036854775808 (by omega) (by omega)
  rw [show ((9223372036854775808 : Nat) : Int) = 9223372036854775808 from rfl] at this
  rw [this]
  have : n &&& 9223372036854775808 = 0 := by
    apply Nat.eq_of_testBit_eq
    intro i
    rw [Nat.testBit_and, show (9223372036854775808 : Nat) = 2 ^ 63 from rfl, Nat.testBit_two_pow]
    by_cases h : 63 = i
    · subst h
      rw [Nat.testBit_lt_two_pow (Nat.lt_trans hn (by decide))]
      rfl
    · simp [h]
  rw [this]
  rfl

theorem and_mono' (n : Int) (hn : 0 ≤ n ∧ n < 1073741824) : bits .and .u64 n 9223372036854775808 = 0 := by
  have := and_mono n.toNat (by omega)
  rwa [Int.toNat_of_nonneg hn.1] at this

set_option maxRecDepth 100000 in
set_option maxHeartbeats 400000 in
theorem strip_any (g : Nat) (n : Int) (w : World) (hn : 0 ≤ n ∧ n < 1073741824) (h0 : w.cell? ⟨g, 0, none⟩ = some (.int .u64 n)) :
    Calls Yba.prog 20 #[.pointer (some ⟨g, 0, none⟩)] w fun e w' => e = .returned (.tuple #[]) ∧ w' = w := by
  have hb := and_mono' n hn
  have hb2 : (bits .and .u64 n 9223372036854775808 != 0) = false := by rw [hb]; rfl
  go_enter Yba.func20, Yba.ntmps20
  go_wp2
  go_end0
  exact ⟨rfl, rfl⟩

set_option maxRecDepth 100000 in
set_option maxHeartbeats 400000 in
theorem nsec_any (g : Nat) (w : World) (h0 : w.cell? ⟨g, 0, none⟩ = some (.int .u64 0)) :
    Calls Yba.prog 18 #[.pointer (some ⟨g, 0, none⟩)] w fun e w' => e = .returned (.int .i32 0) ∧ w' = w := by
  go_enter Yba.func18, Yba.ntmps18
  go_wp2
  go_ret
  exact ⟨congrArg Ending.returned (show Value.int .i32 (wrap32 (bits .and .u64 0 1073741823)) = .int .i32 0 from congrArg _ (by decide +kernel)), rfl⟩

set_option maxRecDepth 100000 in
set_option maxHeartbeats 400000 in
theorem addSec_any (g : Nat) (n : Int) (d : Int) (w : World) (hn : 0 ≤ n ∧ n < 1073741824) (hd : -9223372037 ≤ d ∧ d ≤ 9223372037) (h0 : w.cell? ⟨g, 0, none⟩ = some (.int .u64 n)) (h1 : w.cell? ⟨g, 1, none⟩ = some (.int .i64 0)) (hf : w.frozen? ⟨g, 1, none⟩ = false) :
    Calls Yba.prog 19 #[.pointer (some ⟨g, 0, none⟩), .int .i64 d] w fun e w' => e = .returned (.tuple #[]) ∧ w' = w.setCell ⟨g, 1, none⟩ (.int .i64 d) := by
  have hb := and_mono' n hn
  have hb2 : (bits .and .u64 n 9223372036854775808 != 0) = false := by rw [hb]; rfl
  by_cases hp : (0 : Int) < d
  · go_enter Yba.func19, Yba.ntmps19
    go_wp2
    go_end0
    exact ⟨rfl, rfl⟩
  · go_enter Yba.func19, Yba.ntmps19
    go_wp2
    go_end0
    exact ⟨rfl, rfl⟩

theorem or_zero (n : Int) (hn : 0 ≤ n ∧ n < 1073741824) : bits .or .u64 0 n = n := by
  have := u64_or_nat 0 n.toNat (by omega) (by omega)
  rw [Int.toNat_of_nonneg hn.1] at this
  rw [show ((0 : Nat) : Int) = 0 from rfl, Nat.zero_or, Int.toNat_of_nonneg hn.1] at this
  exact this

set_option maxRecDepth 1000000 in
set_option maxHeartbeats 400000 in
theorem add_any (a : Int) (w : World) (ha : -9223372036854775808 ≤ a ∧ a ≤ 9223372036854775807) :
    Calls Yba.prog 6 #[.agg #[.int .u64 0, .int .i64 0, .pointer none], .int .i64 a] w fun e w' => (∃ x y, e = .returned (.agg #[.int .u64 x, .int .i64 y, .pointer none])) ∧ Below w.heap.size w w' := by
  obtain ⟨q, hq⟩ : ∃ q, a.tdiv 1000000000 = q := ⟨_, rfl⟩
  have hqb : -9223372036 ≤ q ∧ q ≤ 9223372036 := by rw [← hq, Int.tdiv_eq_ediv, show Int.sign 1000000000 = 1 from rfl]; split <;> omega
  have hrb : -1000000000 < a.tmod 1000000000 ∧ a.tmod 1000000000 < 1000000000 := by rw [Int.tmod_eq_emod]; split <;> omega
  have han : bits .andNot .u64 0 1073741823 = 0 := by decide
  by_cases hneg : a.tmod 1000000000 < 0
  · obtain ⟨m, hm, hr⟩ : ∃ m : Int, (0 ≤ m ∧ m < 1000000000) ∧ a.tmod 1000000000 = m - 1000000000 := ⟨a.tmod 1000000000 + 1000000000, by omega, by omega⟩
    have ho := or_zero m (by omega)
    have hmono := and_mono' m (by omega)
    clear hneg ha hrb
    go_enter Yba.func6, Yba.ntmps6
    go_wp2_with (first
      | (go_at_call 18; refine (nsec_any _ _ (by simp)).mono ?_; rintro e w' ⟨rfl, rfl⟩)
      | (go_at_call 19; refine (addSec_any _ m (q - 1) _ (by omega) (by omega) (by simp) (by simp) (by simp)).mono ?_; rintro e w' ⟨rfl, rfl⟩))
    refine bodyPost_ret (by simp [results, Yba.results6, go_sem]; try rfl) rfl ?_
    exact ⟨⟨_, _, rfl⟩, ((Below.refl _ _).alloc (Nat.le_refl _) _).alloc (by simp) _⟩
  · obtain ⟨m, hm, hr⟩ : ∃ m : Int, (0 ≤ m ∧ m < 1000000000) ∧ a.tmod 1000000000 = m := ⟨a.tmod 1000000000, by omega, rfl⟩
    have ho := or_zero m (by omega)
    have hmono := and_mono' m (by omega)
    clear hneg ha hrb
    go_enter Yba.func6, Yba.ntmps6
    go_wp2_with (first
      | (go_at_call 18; refine (nsec_any _ _ (by simp)).mono ?_; rintro e w' ⟨rfl, rfl⟩)
      | (go_at_call 19; refine (addSec_any _ m q _ (by omega) (by omega) (by simp) (by simp) (by simp)).mono ?_; rintro e w' ⟨rfl, rfl⟩))
    refine bodyPost_ret (by simp [results, Yba.results6, go_sem]; try rfl) rfl ?_
    exact ⟨⟨_, _, rfl⟩, ((Below.refl _ _).alloc (Nat.le_refl _) _).alloc (by simp) _⟩
end Go.Proofs.Ybulkdxzq
