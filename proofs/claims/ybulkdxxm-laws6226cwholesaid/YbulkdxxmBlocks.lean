/-
  slices.Clone and slices.Equal at []runBlock, for the law S6226C.
-/
import Derived.Test.YbulkdxxmCursor
import Derived.ArgAppend
import Derived.RowKitTokens
import Derived.Laws.StructEq
namespace Go.Proofs.Ybulkdxxm
open Go.RowKit

theorem Yba.info45 : (Yba.prog.info? 45).map (fun i => (i.zero, i.size, i.bytes)) = some (some (.agg #[.int .u64 0, .int .u32 0, .int .u32 0]), 3, 16) := by kernel_rfl

/-- The three cells of a block. -/
def cell3 (z p q : Nat → Int) (j : Nat) : Value := if j % 3 = 0 then .int .u64 (z (j / 3)) else if j % 3 = 1 then .int .u32 (p (j / 3)) else .int .u32 (q (j / 3))

theorem cell3_0 (z p q : Nat → Int) (k : Nat) : cell3 z p q (k * 3) = .int .u64 (z k) := by
  unfold cell3; rw [if_pos (by omega), show k * 3 / 3 = k by omega]
theorem cell3_1 (z p q : Nat → Int) (k : Nat) : cell3 z p q (k * 3 + 1) = .int .u32 (p k) := by
  unfold cell3; rw [if_neg (by omega), if_pos (by omega), show (k * 3 + 1) / 3 = k by omega]
theorem cell3_2 (z p q : Nat → Int) (k : Nat) : cell3 z p q (k * 3 + 2) = .int .u32 (q k) := by
  unfold cell3; rw [if_neg (by omega), if_neg (by omega), show (k * 3 + 2) / 3 = k by omega]

theorem Rows3.cell {w : World} {b n : Nat} {z p q : Nat → Int} (h : Rows3 w b n z p q) {j : Nat} (hj : j < n * 3) : w.cell? ⟨b, j, none⟩ = some (cell3 z p q j) := by
  obtain ⟨h1, h2, h3⟩ := h (j / 3) (by omega)
  rcases (show j = j / 3 * 3 ∨ j = j / 3 * 3 + 1 ∨ j = j / 3 * 3 + 2 by omega) with e | e | e
  · rw [e, cell3_0]; exact h1
  · rw [e, cell3_1]; exact h2
  · rw [e, cell3_2]; exact h3

theorem rows3_of {w : World} {b n : Nat} {z p q : Nat → Int} (h : ∀ j, j < n * 3 → w.cell? ⟨b, j, none⟩ = some (cell3 z p q j)) : Rows3 w b n z p q := fun k hk =>
  ⟨by rw [h _ (by omega), cell3_0], by rw [h _ (by omega), cell3_1], by rw [h _ (by omega), cell3_2]⟩

theorem cell3_one (z p q : Nat → Int) (j : Nat) : (cell3 z p q j).oneCell' = true := by
  unfold cell3
  split
  · rfl
  · split <;> rfl

set_option maxRecDepth 100000 in
set_option maxHeartbeats 400000 in
theorem clone3_any (b n : Nat) (z p q : Nat → Int) (w : World) (hn : n ≤ 1048576) (hb : b < w.heap.size) (h : Rows3 w b n z p q) :
    Calls Yba.prog 10 #[.slice (some ⟨b, 0, none⟩) n n] w fun e w' => ∃ g cap, e = .returned (.slice (some ⟨g, 0, none⟩) n cap) ∧ Rows3 w' g n z p q ∧ Below w.heap.size w w' := by
  have H := hidC h
  clear h
  have hnil := fun w => Lib.run_eql_slice_nil (P := Yba.prog) w 42 45 (some ⟨b, 0, none⟩) n n 0 0 Yba.underlying42
  obtain ⟨i0, hi, hzz⟩ := Option.map_eq_some_iff.1 Yba.info45
  simp only [Prod.mk.injEq] at hzz
  obtain ⟨hz0, hz1, hz2⟩ := hzz
  rcases Nat.eq_zero_or_pos n with h0 | hn0
  · subst h0
    go_enter Yba.func10, Yba.ntmps10
    go_wp2
    go_ret
    exact ⟨_, _, rfl, fun k hk => by omega, (Below.refl _ w).alloc (Nat.le_refl _) _⟩
  · go_enter Yba.func10, Yba.ntmps10
    go_wp2_with (at_builtin; (refine wpList_append_grows _ rfl (.tmp 5) (.tmp 6) 42 rfl 45 i0 (.agg #[.int .u64 0, .int .u32 0, .int .u32 0]) 3 16 Yba.underlying42 hi hz0 hz1 hz2 rfl (by decide) (some ⟨w.heap.size, 0, none⟩) 0 0 [] rfl (fun h => nomatch h) rfl (fun _ _ j u hj => by simp at hj) ⟨b, 0, none⟩ n n ((List.range (n * 3)).map (cell3 z p q)) rfl (by simp) ?_ ?_ ?_ ?_ ?_ ?_))
    · intro j u hj
      have hjl : j < n * 3 := by
        have := (List.getElem?_eq_some_iff.1 hj).1
        simpa using this
      have hjv : u = cell3 z p q j := by
        simp [hjl] at hj
        exact hj.symm
      rw [WideShapes.add_plain, World.cell?_alloc_lt _ _ _ (by exact hb), hjv, Nat.zero_add]
      exact H.out.cell hjl
    · intro u hu
      obtain ⟨y, _, rfl⟩ := List.mem_map.1 hu
      exact cell3_one _ _ _ _
    · omega
    · unfold maxLen; omega
    · omega
    · intro v' w1 hown hgrow
      obtain ⟨_, ⟨_, h0⟩ | ⟨g, cap, cur, rfl, hg, hrow, hc1, hc2, hc3, hc4⟩⟩ := hown
      · omega
      have hbl : Below w.heap.size w w1 := ((Below.refl _ w).alloc (Nat.le_refl _) (.cells #[] 45)).grown hgrow (by simp) (fun _ h => nomatch h)
      have hcell : ∀ j, j < n * 3 → w1.cell? ⟨g, j, none⟩ = some (cell3 z p q j) := by
        intro j hj
        show (match w1.heap[g]? with | some (Obj.cells c _ _) => c[j]? | _ => none) = _
        rw [hrow]
        show cur[j]? = _
        have e : cur.toList[j]? = ((List.range (n * 3)).map (cell3 z p q))[j]? := by rw [← hc4, List.getElem?_take_of_lt (by omega)]
        rw [← Array.getElem?_toList, e]
        simp [hj]
      have HR := hidC (And.intro (rows3_of hcell) hbl)
      clear hcell hbl hrow hc1 hc2 hc3 hc4 hgrow hg
      go_wp2
      go_ret
      exact ⟨g, cap, rfl, HR.out⟩

/-- '!=' between two equal blocks. -/
theorem neq3 (z p q : Int) (w : World) : (binOp .neq 45 (.agg #[.int .u64 z, .int .u32 p, .int .u32 q]) (.agg #[.int .u64 z, .int .u32 p, .int .u32 q])).run Yba.prog w = .ok (.bool false) w := by
  go_simp

set_option maxRecDepth 100000 in
set_option maxHeartbeats 400000 in
theorem equal3_any (b1 b2 n c1 c2 : Nat) (z p q : Nat → Int) (w : World) (hn : n ≤ 1048576) (h1 : Rows3 w b1 n z p q) (h2 : Rows3 w b2 n z p q) :
    Calls Yba.prog 12 #[.slice (some ⟨b1, 0, none⟩) n c1, .slice (some ⟨b2, 0, none⟩) n c2] w fun e w' => e = .returned (.bool true) ∧ ∃ m, w' = w.drewN m := by
  have H1 := hidC h1
  have H2 := hidC h2
  clear h1 h2
  have hq := fun z p q (w : World) => neq3 z p q w
  go_enter Yba.func12, Yba.ntmps12
  go_wp2
  go_loopw [13, 5] (fun vi _ wr => ∃ k m : Nat, vi = .int .i64 k ∧ k ≤ n ∧ wr = w.drewN m) (fun vi _ _ => n - (intOf vi).toNat)
  case atStart => exact ⟨0, 0, rfl, Nat.zero_le _, rfl⟩
  case round =>
    obtain ⟨k, m, rfl, hk, rfl⟩ := hrel
    by_cases hlt : k < n
    · obtain ⟨x0, x1, x2⟩ := H1.out k hlt
      obtain ⟨y0, y1, y2⟩ := H2.out k hlt
      generalize z k = zk at *
      generalize p k = pk at *
      generalize q k = qk at *
      go_wp2
      go_quiet (fail)
      go_wp2
      go_roundw
      case rel => exact ⟨k + 1, _, by go_num, by omega, rfl⟩
      case measure => simp [intOf]; omega
    · go_wp2
      go_ret
      exact ⟨rfl, m, rfl⟩
end Go.Proofs.Ybulkdxxm
