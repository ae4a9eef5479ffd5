/-
  cmp.Compare, cursor$1, slices.BinarySearchFunc, for the law S6226C.
-/
import Derived.Test.YbulkdxxmRows
import Derived.WalkKit
import Derived.WalkSpells
import Derived.WalkLawsBesides
import Derived.Deep.QuietTactic
import Derived.BigQuiet
import Derived.Deep.DeepCutAuto
import Derived.Laws.BitsLemmas
namespace Go.Proofs.Ybulkdxxm
open Go.RowKit

theorem hidC {p : Prop} (h : p) : Hid p := h

/-- cmp.Compare of two numbers. -/
def cmp3 (x y : Int) : Int := if x < y then -1 else if y < x then 1 else 0

set_option maxHeartbeats 400000 in
theorem isNaN_any (x : Int) (w : World) : Calls Yba.prog 30 #[.int .u64 x] w fun e w' => e = .returned (.bool false) ∧ w' = w := by
  go_enter Yba.func30, Yba.ntmps30
  go_wp2
  go_ret
  exact ⟨by simp, rfl⟩

set_option maxHeartbeats 400000 in
theorem compare_any (x y : Int) (w : World) : Calls Yba.prog 18 #[.int .u64 x, .int .u64 y] w fun e w' => e = .returned (.int .i64 (cmp3 x y)) ∧ w' = w := by
  by_cases h1 : x < y
  · have e : cmp3 x y = -1 := by unfold cmp3; rw [if_pos h1]
    rw [e]
    go_enter Yba.func18, Yba.ntmps18
    go_wp2_with (go_at_call 30; (with_reducible refine (isNaN_any _ _).mono ?_); rintro e w' ⟨rfl, rfl⟩)
    go_ret
    exact ⟨rfl, rfl⟩
  by_cases h2 : y < x
  · have e : cmp3 x y = 1 := by unfold cmp3; rw [if_neg h1, if_pos h2]
    rw [e]
    go_enter Yba.func18, Yba.ntmps18
    go_wp2_with (go_at_call 30; (with_reducible refine (isNaN_any _ _).mono ?_); rintro e w' ⟨rfl, rfl⟩)
    go_ret
    exact ⟨rfl, rfl⟩
  · have e : cmp3 x y = 0 := by unfold cmp3; rw [if_neg h1, if_neg h2]
    rw [e]
    go_enter Yba.func18, Yba.ntmps18
    go_wp2_with (go_at_call 30; (with_reducible refine (isNaN_any _ _).mono ?_); rintro e w' ⟨rfl, rfl⟩)
    go_ret
    exact ⟨rfl, rfl⟩

set_option maxHeartbeats 400000 in
/-- The function that cursor hands to the search. -/
theorem less_any (x y p q : Int) (w : World) : Calls Yba.prog 17 #[.agg #[.int .u64 x, .int .u32 p, .int .u32 q], .int .u64 y] w fun e w' => e = .returned (.int .i64 (cmp3 x y)) ∧ Below w.heap.size w w' := by
  go_enter Yba.func17, Yba.ntmps17
  go_wp2_with (go_at_call 18; (with_reducible refine (compare_any _ _ _).mono ?_); rintro e w' ⟨rfl, rfl⟩)
  go_ret
  exact ⟨rfl, (Below.refl _ w).alloc (Nat.le_refl _) _⟩

/-- The blocks lie in memory: three cells each, the addresses z. -/
def Rows3 (w : World) (b n : Nat) (z : Nat → Int) (p q : Nat → Int) : Prop :=
  ∀ k, k < n → w.cell? ⟨b, k * 3, none⟩ = some (.int .u64 (z k)) ∧ w.cell? ⟨b, k * 3 + 1, none⟩ = some (.int .u32 (p k)) ∧ w.cell? ⟨b, k * 3 + 2, none⟩ = some (.int .u32 (q k))

theorem Rows3.below {w w' : World} {b n B : Nat} {z p q : Nat → Int} (h : Rows3 w b n z p q) (hB : Below B w w') (hb : b < B) : Rows3 w' b n z p q := fun k hk => by
  obtain ⟨h1, h2, h3⟩ := h k hk
  exact ⟨by rw [hB.cell (by exact hb)]; exact h1, by rw [hB.cell (by exact hb)]; exact h2, by rw [hB.cell (by exact hb)]; exact h3⟩

/-- Where the first address not below x lies. -/
structure Low (z : Nat → Int) (n : Nat) (x : Int) (i : Nat) : Prop where
  le : i ≤ n
  below : ∀ k, k < i → z k < x
  above : ∀ k, i ≤ k → k < n → x ≤ z k

theorem Low.unique {z : Nat → Int} {n : Nat} {x : Int} {i j : Nat} (h : Low z n x i) (g : Low z n x j) : i = j := by
  rcases Nat.lt_trichotomy i j with h1 | h1 | h1
  · have a := g.below i h1
    have b := h.above i (Nat.le_refl _) (Nat.lt_of_lt_of_le h1 g.le)
    omega
  · exact h1
  · have a := h.below j h1
    have b := g.above j (Nat.le_refl _) (Nat.lt_of_lt_of_le h1 h.le)
    omega

theorem ret2C {a b c d : Value} (h : a = c) (h' : b = d) : Ending.returned (.tuple #[a, b]) = .returned (.tuple #[c, d]) := by rw [h, h']

set_option maxRecDepth 100000 in
set_option maxHeartbeats 1000000 in
/-- slices.BinarySearchFunc over sorted blocks. -/
theorem search_any (b n cap : Nat) (z p q : Nat → Int) (x : Int) (w : World) (hn : n ≤ 1048576) (h : Rows3 w b n z p q) (hb : 0 < n → b < w.heap.size) (hs : ∀ i j, i ≤ j → j < n → z i ≤ z j) :
    Calls Yba.prog 16 #[.slice (some ⟨b, 0, none⟩) n cap, .int .u64 x, .func (.func 17) #[] #[]] w fun e w' => ∃ i, Low z n x i ∧ e = .returned (.tuple #[.int .i64 i, .bool (decide (i < n ∧ z i = x))]) ∧ Below w.heap.size w w' := by
  have H := hidC h
  have HS := hidC hs
  clear h hs
  go_enter Yba.func16, Yba.ntmps16
  go_wp2
  go_loopw [9, 10] (fun vi vj wr => ∃ i j : Nat, vi = .int .i64 i ∧ vj = .int .i64 j ∧ i ≤ j ∧ j ≤ n ∧ (∀ k, k < i → z k < x) ∧ (∀ k, j ≤ k → k < n → x ≤ z k) ∧ Below w.heap.size w wr) (fun vi vj _ => (intOf vj).toNat - (intOf vi).toNat)
  case atStart => exact ⟨0, n, rfl, rfl, Nat.zero_le _, Nat.le_refl _, fun k hk => by omega, fun k h1 h2 => by omega, Below.refl _ _⟩
  case round =>
    obtain ⟨i, j, rfl, rfl, hij, hjn, hlo, hhi, hbel⟩ := hrel
    have HLO := hidC hlo
    have HHI := hidC hhi
    have HBL := hidC hbel
    clear hlo hhi hbel
    by_cases hlt : i < j
    · have hm : (i + j) / 2 < n := by omega
      obtain ⟨c0, c1, c2⟩ := (H.out.below HBL.out (hb (by omega))) ((i + j) / 2) hm
      by_cases hz : z ((i + j) / 2) < x
      · have e3 : cmp3 (z ((i + j) / 2)) x = -1 := by unfold cmp3; rw [if_pos hz]
        have HZ := hidC hz
        clear hz
        go_wp2_with (go_at_call 17; (with_reducible refine (less_any _ _ _ _ _).mono ?_); rintro e w1 ⟨rfl, hb1⟩)
        all_goals (try go_wp2)
        go_roundw
        case rel =>
          refine ⟨(i + j) / 2 + 1, j, by first | rfl | (congr 1; omega), rfl, by omega, hjn, fun k hk => ?_, HHI.out, HBL.out.trans (hb1.mono HBL.out.size)⟩
          have := HS.out k ((i + j) / 2) (by omega) hm
          have := HZ.out
          omega
        case measure => simp [intOf]; omega
      · have e3 : ¬ cmp3 (z ((i + j) / 2)) x < 0 := by unfold cmp3; rw [if_neg hz]; split <;> omega
        have e4 : decide (cmp3 (z ((i + j) / 2)) x < 0) = false := decide_eq_false e3
        have HZ := hidC hz
        clear hz
        go_wp2_with (go_at_call 17; (with_reducible refine (less_any _ _ _ _ _).mono ?_); rintro e w1 ⟨rfl, hb1⟩)
        all_goals (try go_wp2)
        go_roundw
        case rel =>
          refine ⟨i, (i + j) / 2, rfl, by first | rfl | (congr 1; omega), by omega, by omega, HLO.out, fun k h1 h2 => ?_, HBL.out.trans (hb1.mono HBL.out.size)⟩
          have := HS.out ((i + j) / 2) k h1 h2
          have := HZ.out
          omega
        case measure => simp [intOf]; omega
    · obtain rfl : i = j := by omega
      clear hij hlt
      by_cases hin : i < n
      · obtain ⟨c0, c1, c2⟩ := (H.out.below HBL.out (hb (by omega))) i hin
        have hge := HHI.out i (Nat.le_refl _) hin
        by_cases hz : z i = x
        · have e3 : cmp3 (z i) x = 0 := by unfold cmp3; rw [if_neg (by omega), if_neg (by omega)]
          have HZ := hidC hz
          clear hz hge
          go_wp2_with (go_at_call 17; (with_reducible refine (less_any _ _ _ _ _).mono ?_); rintro e w1 ⟨rfl, hb1⟩)
          all_goals (try go_wp2)
          go_ret2
          exact ⟨i, ⟨hjn, HLO.out, HHI.out⟩, ret2C rfl (congrArg Value.bool (decide_eq_true (p := i < n ∧ z i = x) ⟨hin, HZ.out⟩).symm), HBL.out.trans (hb1.mono HBL.out.size)⟩
        · have e3 : (cmp3 (z i) x == 0) = false := beq_eq_false_iff_ne.2 (by unfold cmp3; rw [if_neg (by omega), if_pos (by omega)]; decide)
          have HZ := hidC hz
          clear hz hge
          go_wp2_with (go_at_call 17; (with_reducible refine (less_any _ _ _ _ _).mono ?_); rintro e w1 ⟨rfl, hb1⟩)
          all_goals (try go_wp2)
          go_ret2
          exact ⟨i, ⟨hjn, HLO.out, HHI.out⟩, ret2C rfl (congrArg Value.bool (decide_eq_false (p := i < n ∧ z i = x) (fun h => HZ.out h.2)).symm), HBL.out.trans (hb1.mono HBL.out.size)⟩
      · have hdd : decide ((i : Int) < (n : Int)) = false := decide_eq_false (by omega)
        go_wp2
        go_ret2
        exact ⟨i, ⟨hjn, HLO.out, HHI.out⟩, ret2C rfl (congrArg Value.bool (decide_eq_false (p := i < n ∧ z i = x) (fun h => hin h.1)).symm), HBL.out⟩
end Go.Proofs.Ybulkdxxm
