/-
  'sorted := slices.Clone(addrs); slices.Sort(sorted)', for the law S6226C.
-/
import Derived.Test.YbulkdxxmSort
import Derived.Test.YbulkdxxmSortNil
import Derived.Test.YbulkdxxmBlocks
namespace Go.Proofs.Ybulkdxxm
open Go.RowKit

theorem Yba.info24 : (Yba.prog.info? 24).map (fun i => (i.zero, i.size, i.bytes)) = some (some (.int .u64 0), 1, 8) := by kernel_rfl

/-- A slice of numbers that the call itself has made: nil, or the whole of a block. -/
structure OwnU (base : Nat) (w : World) (so : Option Addr) (n : Nat) (zs : List Int) : Prop where
  len : zs.length = n
  row : (so = none ∧ n = 0) ∨ ∃ g, so = some ⟨g, 0, none⟩ ∧ base ≤ g ∧ g < w.heap.size ∧ Go.Sort.Holds (Value.int .u64) w g 0 zs.toArray

theorem holds_cell {w : World} {g : Nat} {zs : List Int} (h : Go.Sort.Holds (Value.int .u64) w g 0 zs.toArray) {i : Nat} (hi : i < zs.length) : w.cell? ⟨g, i, none⟩ = some (.int .u64 (zs.getD i 0)) := by
  have := (h i (by simpa using hi)).1
  rw [Nat.zero_add] at this
  rw [this]
  simp [List.getD, hi]

theorem OwnU.below {base B : Nat} {w w' : World} {so : Option Addr} {n : Nat} {zs : List Int} (h : OwnU base w so n zs) (hb : Below B w w') (hB : w.heap.size ≤ B) : OwnU base w' so n zs := by
  refine ⟨h.len, ?_⟩
  rcases h.row with h1 | ⟨g, h1, h2, h3, h4⟩
  · exact Or.inl h1
  · refine Or.inr ⟨g, h1, h2, Nat.lt_of_lt_of_le h3 hb.size, fun j hj => ?_⟩
    have hg : g < B := Nat.lt_of_lt_of_le h3 hB
    exact ⟨by rw [hb.cell (by exact hg)]; exact (h4 j hj).1, by rw [hb.frozen (by exact hg)]; exact (h4 j hj).2⟩

set_option maxRecDepth 100000 in
set_option maxHeartbeats 400000 in
/-- slices.Clone of a slice that is not nil and has no element. -/
theorem clone1_empty (x : Addr) (cap : Nat) (w : World) : Calls Yba.prog 8 #[.slice (some x) 0 cap] w fun e w' => e = .returned (.slice (some ⟨w.heap.size, 0, none⟩) 0 0) ∧ w' = w.alloc (.cells #[] 24) := by
  have hnil := fun w => Lib.run_eql_slice_nil (P := Yba.prog) w 38 24 (some x) 0 cap 0 0 Yba.underlying38
  go_enter Yba.func8, Yba.ntmps8
  go_wp2
  go_ret
  exact ⟨rfl, rfl⟩

theorem clone1_any (a : Option Addr) (n cap : Nat) (zs : List Int) (w : World) (hl : zs.length = n) (hn : n ≤ 1048576)
    (hr : (a = none ∧ n = 0) ∨ (∃ x, a = some x ∧ n = 0) ∨ ∃ b off, a = some ⟨b, off, none⟩ ∧ ∀ i, i < n → w.cell? ⟨b, off + i, none⟩ = some (.int .u64 (zs.getD i 0))) :
    Calls Yba.prog 8 #[.slice a n cap] w fun e w' => ∃ so sc, e = .returned (.slice so n sc) ∧ OwnU w.heap.size w' so n zs ∧ Below w.heap.size w w' := by
  rcases hr with ⟨rfl, rfl⟩ | ⟨x, rfl, rfl⟩ | ⟨b, off, rfl, hc⟩
  rotate_left
  · refine (clone1_empty x cap w).mono fun e w' ⟨h1, h2⟩ => ⟨some ⟨w.heap.size, 0, none⟩, 0, h1, ⟨hl, Or.inr ⟨w.heap.size, rfl, Nat.le_refl _, ?_, fun j hj => ?_⟩⟩, ?_⟩
    · rw [h2]; simp
    · simp at hj; omega
    · rw [h2]; exact (Below.refl _ _).alloc (Nat.le_refl _) _
  rotate_left
  · exact (Yba.slices_Clone_nil 0 cap w).mono fun e w' ⟨h1, h2⟩ => ⟨none, 0, h1, ⟨hl, Or.inl ⟨rfl, rfl⟩⟩, by rw [h2]; exact Below.refl _ _⟩
  · obtain ⟨i0, hi, hzz⟩ := Option.map_eq_some_iff.1 Yba.info24
    simp only [Prod.mk.injEq] at hzz
    obtain ⟨hz0, hz1, hz2⟩ := hzz
    refine (Yba.slices_Clone i0 (.int .u64 0) 1 8 hi hz0 hz1 hz2 rfl (by decide) Yba.sizeOf24 b off n cap (zs.map (Value.int .u64)) w (by simp [hl]) (by unfold maxLen; omega) (by omega) ?_ ?_).mono ?_
    · intro j u hj
      have hjl : j < zs.length := by
        have := (List.getElem?_eq_some_iff.1 hj).1
        simpa using this
      have hjv : u = .int .u64 (zs.getD j 0) := by
        simp [hjl] at hj
        simp [List.getD, hjl, hj]
      rw [hjv]
      exact hc j (by omega)
    · intro u hu
      obtain ⟨y, _, rfl⟩ := List.mem_map.1 hu
      rfl
    · rintro e w' ⟨v', rfl, hown, hne, hb⟩
      obtain ⟨_, ⟨h0, _⟩ | ⟨g, c, cur, rfl, hg, hrow, hc1, hc2, hc3, hc4⟩⟩ := hown
      · exact absurd h0 hne
      · refine ⟨some ⟨g, 0, none⟩, c, rfl, ⟨hl, Or.inr ⟨g, rfl, hg, ?_, fun j hj => ⟨?_, ?_⟩⟩⟩, hb⟩
        · rcases Nat.lt_or_ge g w'.heap.size with h' | h'
          · exact h'
          · rw [Array.getElem?_eq_none h'] at hrow; cases hrow
        · have hjl : j < zs.length := by simpa using hj
          rw [Nat.zero_add]
          show (match w'.heap[g]? with | some (Obj.cells c _ _) => c[j]? | _ => none) = _
          rw [hrow]
          show cur[j]? = _
          have e : cur.toList[j]? = (zs.map (Value.int .u64))[j]? := by rw [← hc4, List.getElem?_take_of_lt (by omega)]
          rw [← Array.getElem?_toList, e]
          simp [hjl]
        · rw [Nat.zero_add]; simp [World.frozen?, hrow]

theorem sorted_get (zs : List Int) (i j : Nat) (hij : i ≤ j) (hj : j < (zs.mergeSort fun x y => decide (x ≤ y)).length) :
    (zs.mergeSort fun x y => decide (x ≤ y)).getD i 0 ≤ (zs.mergeSort fun x y => decide (x ≤ y)).getD j 0 := by
  have hp := List.pairwise_mergeSort (le := fun x y : Int => decide (x ≤ y)) (fun a b c h1 h2 => by simp at *; omega) (fun a b => by simp; omega) zs
  rcases Nat.lt_or_eq_of_le hij with h | h
  · have := (List.pairwise_iff_getElem.1 hp) i j (by omega) hj h
    rw [List.getD, List.getD, List.getElem?_eq_getElem (show i < (zs.mergeSort fun x y => decide (x ≤ y)).length by omega), List.getElem?_eq_getElem hj]
    simpa using this
  · subst h; exact Int.le_refl _

theorem below_putRow {B g : Nat} {w0 w : World} (hb : Below B w0 w) (hBg : B ≤ g) (d : Array Int) : Below B w0 (Go.Sort.putRow (Value.int .u64) w g 0 d) :=
  hb.trans ⟨rfl, rfl, rfl, by simp, fun k hk => by
    show (w.heap.modify g _)[k]? = _
    rw [Array.getElem?_modify, if_neg (by omega)]⟩
theorem below_grow {B : Nat} {w0 w : World} (hb : Below B w0 w) (hB : B ≤ w.heap.size) (os : Array Obj) : Below B w0 (Go.Sort.grow w os) :=
  hb.trans ⟨rfl, rfl, rfl, by simp, fun _ hk => Go.Sort.heap_grow_old w os (Nat.lt_of_lt_of_le hk hB)⟩

theorem sort1_any (base : Nat) (so : Option Addr) (n sc : Nat) (zs : List Int) (w : World) (hn : n ≤ 1048576) (h : OwnU base w so n zs) (hbase : base ≤ w.heap.size) :
    Calls Yba.prog 9 #[.slice so n sc] w fun e w' => e = .returned (.tuple #[]) ∧ ∃ ys, OwnU base w' so n ys ∧ (∀ i j, i ≤ j → j < n → ys.getD i 0 ≤ ys.getD j 0) ∧ Below base w w' := by
  rcases h.row with ⟨rfl, rfl⟩ | ⟨g, rfl, hg, hlt, hH⟩
  · exact (U.Sort_int_nil_u64 none sc w).mono fun e w' ⟨h1, h2⟩ => ⟨h1, zs, by rw [h2]; exact h, fun i j _ hj => by omega, by rw [h2]; exact Below.refl _ _⟩
  · have hlen : zs.length = n := h.len
    subst hlen
    refine (U.slices_Sort_u64 g 0 sc zs w hH hlt (by omega)).mono ?_
    rintro e w' ⟨h1, m, os, rfl⟩
    have hHa := Go.Sort.holds_ahead (Value.int .u64) w m g 0 zs.toArray hH
    have hHp := Go.Sort.holds_putRow (Value.int .u64) (Go.Sort.ahead w m) g 0 zs.toArray (zs.mergeSort fun x y => decide (x ≤ y)).toArray hHa (by simp)
    have hgp : g < (Go.Sort.putRow (Value.int .u64) (Go.Sort.ahead w m) g 0 (zs.mergeSort fun x y => decide (x ≤ y)).toArray).heap.size := by simpa using hlt
    refine ⟨h1, zs.mergeSort fun x y => decide (x ≤ y), ⟨by simp, Or.inr ⟨g, rfl, hg, by simp; exact Nat.lt_of_lt_of_le hlt (Nat.le_add_right _ _), Go.Sort.holds_grow _ _ _ _ _ _ hgp hHp⟩⟩, fun i j hij hj => sorted_get zs i j hij (by simpa using hj), ?_⟩
    exact below_grow (below_putRow (⟨rfl, rfl, rfl, Nat.le_refl _, fun _ _ => rfl⟩ : Below base w (Go.Sort.ahead w m)) hg _) (by simpa using hbase) os
end Go.Proofs.Ybulkdxxm
