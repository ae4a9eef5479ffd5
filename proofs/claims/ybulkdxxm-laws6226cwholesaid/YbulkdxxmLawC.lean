/-
  The law S6226C.
-/
import Derived.Test.YbulkdxxmStart
import Derived.Laws.MakeOwn
import Derived.Deep.LoopGhost
import Derived.LaidEqlPtr
namespace Go.Proofs.Ybulkdxxm
open Go.RowKit

/-- What make lays for n blocks. -/
theorem make3 (n : Nat) (hn : n ≤ 1048576) (w : World) : (Instr.makeSlice 42 (.int .i64 n) (.int .i64 n)).run Yba.prog w = .ok (.slice (some ⟨w.heap.size, 0, none⟩) n n) (w.alloc (.cells (madeCells #[.int .u64 0, .int .u32 0, .int .u32 0] (n * 3)) 45)) := by
  obtain ⟨i0, hi, hzz⟩ := Option.map_eq_some_iff.1 Yba.info45
  simp only [Prod.mk.injEq] at hzz
  obtain ⟨hz0, hz1, hz2⟩ := hzz
  have h := run_make (P := Yba.prog) w 42 45 i0 (.agg #[.int .u64 0, .int .u32 0, .int .u32 0]) Yba.underlying42 hi hz0 .i64 .i64 (n : Int) (n : Int) (by omega) (by omega) (by rw [hz2]; omega) (by omega)
  rw [hz1, show (Value.agg #[.int .u64 0, .int .u32 0, .int .u32 0]).cells = #[.int .u64 0, .int .u32 0, .int .u32 0] from rfl] at h
  simpa using h

/-- The row of blocks while the loop fills it: the first k are laid. -/
structure Fill (bb n : Nat) (w0 : World) (z p q : Nat → Int) (k : Nat) (w : World) : Prop where
  row : ∃ f : Nat → Value, w.rowIs bb 45 (n * 3) f ∧ ∀ j, j < k * 3 → f j = cell3 z p q j
  low : Below bb w0 w

theorem Fill.start (n : Nat) (w : World) (z p q : Nat → Int) : Fill w.heap.size n w z p q 0 (w.alloc (.cells (madeCells #[.int .u64 0, .int .u32 0, .int .u32 0] (n * 3)) 45)) := by
  refine ⟨⟨fun j => (madeCells #[.int .u64 0, .int .u32 0, .int .u32 0] (n * 3))[j]!, ⟨_, Go.Deep.blk_alloc_new _ _, size_madeCells _ _, fun i hi => ?_⟩, fun j hj => by omega⟩, (Below.refl _ _).alloc (Nat.le_refl _) _⟩
  show (madeCells #[.int .u64 0, .int .u32 0, .int .u32 0] (n * 3))[i]? = some (madeCells #[.int .u64 0, .int .u32 0, .int .u32 0] (n * 3))[i]!
  rw [getElem!_pos _ i (by rw [size_madeCells]; exact hi), Array.getElem?_eq_getElem]

theorem Fill.cell {bb n k : Nat} {w0 w : World} {z p q : Nat → Int} (h : Fill bb n w0 z p q k w) {j : Nat} (hj : j < n * 3) : ∃ v, w.cell? ⟨bb, j, none⟩ = some v := by
  obtain ⟨⟨f, hr, _⟩, _⟩ := h
  exact ⟨f j, hr.cell hj⟩
theorem Fill.frozen {bb n k : Nat} {w0 w : World} {z p q : Nat → Int} (h : Fill bb n w0 z p q k w) (j : Nat) : w.frozen? ⟨bb, j, none⟩ = false := by
  obtain ⟨⟨f, hr, _⟩, _⟩ := h
  exact hr.frozen j
theorem Fill.step {bb n k : Nat} {w0 w : World} {z p q : Nat → Int} (h : Fill bb n w0 z p q k w) :
    Fill bb n w0 z p q (k + 1) (((w.setCell ⟨bb, k * 3, none⟩ (.int .u64 (z k))).setCell ⟨bb, k * 3 + 1, none⟩ (.int .u32 (p k))).setCell ⟨bb, k * 3 + 2, none⟩ (.int .u32 (q k))) := by
  obtain ⟨⟨f, hr, hf⟩, hb⟩ := h
  refine ⟨⟨_, ((hr.set (k * 3) _).set (k * 3 + 1) _).set (k * 3 + 2) _, fun j hj => ?_⟩, ((hb.setCell (Nat.le_refl _) _).setCell (Nat.le_refl _) _).setCell (Nat.le_refl _) _⟩
  by_cases e2 : j = k * 3 + 2
  · simp only [e2, if_true]; rw [cell3_2]
  by_cases e1 : j = k * 3 + 1
  · simp only [e1, if_true, show ¬ k * 3 + 1 = k * 3 + 2 by omega, if_false]; rw [cell3_1]
  by_cases e0 : j = k * 3
  · simp only [e0, if_true, show ¬ k * 3 = k * 3 + 2 by omega, show ¬ k * 3 = k * 3 + 1 by omega, if_false]; rw [cell3_0]
  · simp only [e2, e1, e0, if_false]; exact hf j (by omega)
theorem Fill.rows {bb n : Nat} {w0 w : World} {z p q : Nat → Int} (h : Fill bb n w0 z p q n w) : Rows3 w bb n z p q ∧ bb < w.heap.size := by
  obtain ⟨⟨f, hr, hf⟩, hb⟩ := h
  exact ⟨rows3_of fun j hj => by rw [hr.cell hj, hf j hj], hr.lt⟩

/-- The world behind Clone and Sort. -/
structure Sorted (w : World) (l0 l1 l2 l3 : Int) (so : Option Addr) (n : Nat) (ys : List Int) (w2 : World) : Prop where
  own : OwnU (w.heap.size + 1) w2 so n ys
  asc : ∀ i j, i ≤ j → j < n → ys.getD i 0 ≤ ys.getD j 0
  box : w2.heap[w.heap.size]? = some (.cells #[.int .u64 l0, .int .u64 l1, .int .u64 l2, .int .u64 l3] 39 (0, 0))
  low : Below w.heap.size w w2

theorem Rows3.later {w w' : World} {b n : Nat} {z p q : Nat → Int} (h : Rows3 w b n z p q) (hB : Below w.heap.size w w') : Rows3 w' b n z p q := fun k hk =>
  ⟨cell_later hB (h k hk).1, cell_later hB (h k hk).2.1, cell_later hB (h k hk).2.2⟩

theorem row_later {w w' : World} {b : Nat} {o : Obj} (h : w.heap[b]? = some o) (hB : Below w.heap.size w w') : w'.heap[b]? = some o := by
  have hb : b < w.heap.size := by
    rcases Nat.lt_or_ge b w.heap.size with h' | h'
    · exact h'
    · rw [Array.getElem?_eq_none h'] at h; cases h
  exact (hB.block b hb).trans h

theorem cell_rowC {w : World} {b i : Nat} {c : Array Value} {t : TypeId} {z : Nat × Nat} {v : Value} (h : w.heap[b]? = some (.cells c t z)) (hi : c[i]? = some v) : w.cell? ⟨b, i, none⟩ = some v := by
  show (match w.heap[b]? with | some (Obj.cells c _ _) => c[i]? | _ => none) = _
  rw [h]; exact hi

/-- What stands when the blocks are laid and kept. -/
structure St (w : World) (l0 l1 l2 l3 : Int) (so : Option Addr) (n : Nat) (ys : List Int) (bb kb : Nat) (w3 : World) : Prop where
  own : OwnU (w.heap.size + 1) w3 so n ys
  asc : ∀ i j, i ≤ j → j < n → ys.getD i 0 ≤ ys.getD j 0
  box : w3.heap[w.heap.size]? = some (.cells #[.int .u64 l0, .int .u64 l1, .int .u64 l2, .int .u64 l3] 39 (0, 0))
  r1 : Rows3 w3 bb n (fun k => ys.getD k 0) (fun k => (k : Int)) (fun k => (k : Int) * 3)
  hb : bb < w3.heap.size
  r2 : Rows3 w3 kb n (fun k => ys.getD k 0) (fun k => (k : Int)) (fun k => (k : Int) * 3)
  low : Below w.heap.size w w3

theorem St.later {w : World} {l0 l1 l2 l3 : Int} {so : Option Addr} {n : Nat} {ys : List Int} {bb kb : Nat} {w3 w4 : World} (h : St w l0 l1 l2 l3 so n ys bb kb w3) (hB : Below w3.heap.size w3 w4) : St w l0 l1 l2 l3 so n ys bb kb w4 :=
  ⟨h.own.below hB (Nat.le_refl _), h.asc, row_later h.box hB, h.r1.later hB, Nat.lt_of_lt_of_le h.hb hB.size, h.r2.later hB, h.low.trans (hB.mono h.low.size)⟩

theorem St.get {w : World} {l0 l1 l2 l3 : Int} {so : Option Addr} {n : Nat} {ys : List Int} {bb kb : Nat} {w3 : World} (h : St w l0 l1 l2 l3 so n ys bb kb w3) (hn : 0 < n) :
    ∃ g, so = some ⟨g, 0, none⟩ ∧ ∀ i, i < n → w3.cell? ⟨g, i, none⟩ = some (.int .u64 (ys.getD i 0)) := by
  rcases h.own.row with h1 | ⟨g, h1, _, _, h2⟩
  · omega
  · exact ⟨g, h1, fun i hi => holds_cell h2 (by rw [h.own.len]; exact hi)⟩

theorem st_of {w : World} {l0 l1 l2 l3 : Int} {so : Option Addr} {n : Nat} {ys : List Int} {w2 wr w3 : World} {kb : Nat} (hS : Sorted w l0 l1 l2 l3 so n ys w2) (hF : Fill w2.heap.size n w2 (fun k => ys.getD k 0) (fun k => (k : Int)) (fun k => (k : Int) * 3) n wr)
    (hk : Rows3 w3 kb n (fun k => ys.getD k 0) (fun k => (k : Int)) (fun k => (k : Int) * 3)) (hb : Below wr.heap.size wr w3) : St w l0 l1 l2 l3 so n ys w2.heap.size kb w3 := by
  have h23 : Below w2.heap.size w2 w3 := hF.low.trans (hb.mono hF.low.size)
  obtain ⟨hr, hlt⟩ := hF.rows
  exact ⟨hS.own.below h23 (Nat.le_refl _), hS.asc, row_later hS.box h23, hr.later hb, Nat.lt_of_lt_of_le hlt hb.size, hk, hS.low.trans (h23.mono hS.low.size)⟩

theorem eqp (a : Addr) (w : World) : (binOp .eql 49 (.pointer (some a)) (.pointer (some a))).run Yba.prog w = .ok (.bool true) w := by
  obtain ⟨j, hj, _⟩ := Option.map_eq_some_iff.1 (show (Yba.prog.info? 52).map (·.size) = some 7 by kernel_rfl)
  exact run_eql_ptr_same (P := Yba.prog) w a Yba.underlying49 hj
theorem eq4 (a b c d : Int) (w : World) : (binOp .eql 48 (.agg #[.int .u64 a, .int .u64 b, .int .u64 c, .int .u64 d]) (.agg #[.int .u64 a, .int .u64 b, .int .u64 c, .int .u64 d])).run Yba.prog w = .ok (.bool true) w := by
  go_simp
theorem eq53 (w : World) : (binOp .eql 53 (.slice none 0 0) (.slice none 0 0)).run Yba.prog w = .ok (.bool true) w := by kernel_rfl
theorem eq50 (w : World) : (binOp .eql 50 (.slice none 0 0) (.slice none 0 0)).run Yba.prog w = .ok (.bool true) w := by kernel_rfl

/-- The blocks behind the call of cursor. -/
structure Fin3 (w : World) (l0 l1 l2 l3 nn : Int) (so : Option Addr) (n : Nat) (ys : List Int) (bb kb lb cb rb : Nat) (K : Int) (w6 : World) : Prop where
  st : St w l0 l1 l2 l3 so n ys bb kb w6
  lr : w6.heap[lb]? = some (.cells #[.int .u64 l0, .int .u64 l1, .int .u64 l2, .int .u64 l3] 48 (0, 0))
  cr : w6.heap[cb]? = some (.cells #[.slice (some ⟨bb, 0, none⟩) n n, .slice none 0 0, .int .i64 nn, .int .u64 l0, .int .u64 l1, .int .u64 l2, .int .u64 l3] 52 (0, 0))
  rr : w6.heap[rb]? = some (.cells (curs cb K) 55 (0, 0))

/-- The two blocks that the law lays ahead of the call. -/
abbrev laid2 (l0 l1 l2 l3 nn : Int) (n bb : Nat) (V : World) : World :=
  (V.alloc (.cells #[.int .u64 l0, .int .u64 l1, .int .u64 l2, .int .u64 l3] 48)).alloc (.cells #[.slice (some ⟨bb, 0, none⟩) n n, .slice none 0 0, .int .i64 nn, .int .u64 l0, .int .u64 l1, .int .u64 l2, .int .u64 l3] 52)

theorem laid2_facts (l0 l1 l2 l3 nn : Int) (n bb : Nat) (V : World) : Below V.heap.size V (laid2 l0 l1 l2 l3 nn n bb V) ∧ (laid2 l0 l1 l2 l3 nn n bb V).heap[V.heap.size]? = some (.cells #[.int .u64 l0, .int .u64 l1, .int .u64 l2, .int .u64 l3] 48 (0, 0)) ∧
    (laid2 l0 l1 l2 l3 nn n bb V).heap[V.heap.size + 1]? = some (.cells #[.slice (some ⟨bb, 0, none⟩) n n, .slice none 0 0, .int .i64 nn, .int .u64 l0, .int .u64 l1, .int .u64 l2, .int .u64 l3] 52 (0, 0)) := by
  have h1 := (Below.refl _ V).alloc (Nat.le_refl _) (.cells #[.int .u64 l0, .int .u64 l1, .int .u64 l2, .int .u64 l3] 48)
  have h2 := Go.Deep.blk_alloc_new V (.cells #[.int .u64 l0, .int .u64 l1, .int .u64 l2, .int .u64 l3] 48)
  have h3 : (V.alloc (.cells #[.int .u64 l0, .int .u64 l1, .int .u64 l2, .int .u64 l3] 48)).heap.size = V.heap.size + 1 := by simp
  refine ⟨h1.alloc (by omega) _, ?_, ?_⟩
  · exact row_later h2 ((Below.refl _ _).alloc (Nat.le_refl _) _)
  · rw [← h3]; exact Go.Deep.blk_alloc_new _ _

theorem fin_of {w : World} {l0 l1 l2 l3 nn : Int} {so : Option Addr} {n : Nat} {ys : List Int} {bb kb : Nat} {V w6 : World} {K : Int} (h : St w l0 l1 l2 l3 so n ys bb kb V) (hb : Below (laid2 l0 l1 l2 l3 nn n bb V).heap.size (laid2 l0 l1 l2 l3 nn n bb V) w6) :
    Fin3 w l0 l1 l2 l3 nn so n ys bb kb V.heap.size (V.heap.size + 1) w6.heap.size K (w6.alloc (.cells (curs (V.heap.size + 1) K) 55)) := by
  obtain ⟨f1, f2, f3⟩ := laid2_facts l0 l1 l2 l3 nn n bb V
  have hb2 := hb.trans (((Below.refl _ w6).alloc (Nat.le_refl _) (.cells (curs (V.heap.size + 1) K) 55)).mono hb.size)
  exact ⟨h.later (f1.trans (hb2.mono f1.size)), row_later f2 hb2, row_later f3 hb2, Go.Deep.blk_alloc_new _ _⟩

set_option maxRecDepth 100000 in
set_option maxHeartbeats 1000000 in
theorem lawC_any (a : Option Addr) (n cap : Nat) (zs : List Int) (x nn l0 l1 l2 l3 : Int) (pk : Nat) (w : World) (hpk : pk ≤ 255) (hl : zs.length = n) (hn : n ≤ 1048576)
    (hr : (a = none ∧ n = 0) ∨ (∃ x, a = some x ∧ n = 0) ∨ ∃ b off, a = some ⟨b, off, none⟩ ∧ ∀ i, i < n → w.cell? ⟨b, off + i, none⟩ = some (.int .u64 (zs.getD i 0))) :
    Calls Yba.prog 4 #[.slice a n cap, .int .u64 x, .int .u8 pk, .int .i64 nn, .agg #[.int .u64 l0, .int .u64 l1, .int .u64 l2, .int .u64 l3]] w
      fun e w' => e = .returned (.bool true) ∧ Below w.heap.size w w' := by
  have hA := (Below.refl _ w).alloc (Nat.le_refl _) (.cells #[.int .u64 l0, .int .u64 l1, .int .u64 l2, .int .u64 l3] 39)
  have hN := Go.Deep.blk_alloc_new w (.cells #[.int .u64 l0, .int .u64 l1, .int .u64 l2, .int .u64 l3] 39)
  have hsA : (w.alloc (.cells #[.int .u64 l0, .int .u64 l1, .int .u64 l2, .int .u64 l3] 39)).heap.size = w.heap.size + 1 := by simp
  have HCL := hidC (p := ∀ W, W = w.alloc (.cells #[.int .u64 l0, .int .u64 l1, .int .u64 l2, .int .u64 l3] 39) → Calls Yba.prog 8 #[.slice a n cap] W
      fun e w' => ∃ so sc, e = .returned (.slice so n sc) ∧ OwnU (w.heap.size + 1) w' so n zs ∧ Below (w.heap.size + 1) W w') fun W hW => by
    subst hW
    have := clone1_any a n cap zs (w.alloc (.cells #[.int .u64 l0, .int .u64 l1, .int .u64 l2, .int .u64 l3] 39)) hl hn ?_
    · rw [hsA] at this; exact this
    · rcases hr with h1 | h1 | ⟨b, off, h1, h2⟩
      · exact Or.inl h1
      · exact Or.inr (Or.inl h1)
      · refine Or.inr (Or.inr ?_)
        exact ⟨b, off, h1, fun i hi => cell_later hA (h2 i hi)⟩
  have HSO := hidC (p := ∀ so sc W, OwnU (w.heap.size + 1) W so n zs → Below (w.heap.size + 1) (w.alloc (.cells #[.int .u64 l0, .int .u64 l1, .int .u64 l2, .int .u64 l3] 39)) W → Calls Yba.prog 9 #[.slice so n sc] W
      fun e w' => e = .returned (.tuple #[]) ∧ ∃ ys, Sorted w l0 l1 l2 l3 so n ys w') fun so sc W h1 h2 => by
    refine (sort1_any (w.heap.size + 1) so n sc zs W hn h1 (by have := h2.size; omega)).mono ?_
    rintro e w' ⟨g1, ys, g2, g3, g4⟩
    have h3 := h2.trans g4
    exact ⟨g1, ys, g2, g3, (h3.block _ (by omega)).trans hN, hA.trans (h3.mono (by omega))⟩
  clear hr hA hN hsA
  go_enter Yba.func4, Yba.ntmps4
  go_upto_region 5 with (first
    | (go_at_call 8; (with_reducible refine (HCL.out _ ?_).mono ?_); (exact rfl); rintro e w1 ⟨so, sc, rfl, ho1, hb1⟩; have HSO2 := hidC (HSO.out so sc w1 ho1 hb1); clear ho1 hb1)
    | (go_at_call 9; (with_reducible refine HSO2.out.mono ?_); rintro e w2 ⟨rfl, ys, hS⟩))
  have HS := hidC hS
  have hmk := fun w => make3 n hn w
  clear hS HCL HSO HSO2
  go_wp2
  go_loopw [13] (fun vi wr => ∃ k : Nat, vi = .int .i64 k ∧ k ≤ n ∧ Fill w2.heap.size n w2 (fun k => ys.getD k 0) (fun k => (k : Int)) (fun k => (k : Int) * 3) k wr) (fun vi _ => n - (intOf vi).toNat)
  case atStart => exact ⟨0, rfl, Nat.zero_le _, Fill.start n w2 _ _ _⟩
  case round =>
    obtain ⟨k, rfl, hk, hF⟩ := hrel
    have HF := hidC hF
    clear hF
    by_cases hlt : k < n
    · obtain ⟨g, hso, _, hg, hH⟩ : ∃ g, so = some ⟨g, 0, none⟩ ∧ w.heap.size + 1 ≤ g ∧ g < w2.heap.size ∧ Go.Sort.Holds (Value.int .u64) w2 g 0 ys.toArray := by
        rcases HS.out.own.row with h | h
        · omega
        · exact h
      subst hso
      have hcg : wr.cell? ⟨g, k, none⟩ = some (.int .u64 (ys.getD k 0)) := by
        rw [HF.out.low.cell (by exact hg)]; exact holds_cell hH (by rw [HS.out.own.len]; exact hlt)
      have hfz := HF.out.frozen
      obtain ⟨v0, c0⟩ := HF.out.cell (j := k * 3) (by omega)
      obtain ⟨v1, d1⟩ := HF.out.cell (j := k * 3 + 1) (by omega)
      obtain ⟨v2, d2⟩ := HF.out.cell (j := k * 3 + 2) (by omega)
      have c1 : ∀ u0, (wr.setCell ⟨w2.heap.size, k * 3, none⟩ u0).cell? ⟨w2.heap.size, k * 3 + 1, none⟩ = some v1 := fun u0 => by rw [World.cell?_setCell_other _ _ _ _ (by simp)]; exact d1
      have c2 : ∀ u0 u1, ((wr.setCell ⟨w2.heap.size, k * 3, none⟩ u0).setCell ⟨w2.heap.size, k * 3 + 1, none⟩ u1).cell? ⟨w2.heap.size, k * 3 + 2, none⟩ = some v2 := fun u0 u1 => by
        rw [World.cell?_setCell_other _ _ _ _ (by simp), World.cell?_setCell_other _ _ _ _ (by simp)]; exact d2
      have HST := hidC HF.out.step
      clear hH hg d1 d2
      generalize ys.getD k 0 = yk at *
      go_wp2
      go_roundw
      case rel => exact ⟨k + 1, by go_num, by omega, HST.out⟩
      case measure => simp [intOf]; omega
    · obtain rfl : n = k := by omega
      clear hlt hk
      obtain ⟨hrow, hbb⟩ := HF.out.rows
      have HC10 := hidC (clone3_any w2.heap.size n (fun k => ys.getD k 0) (fun k => (k : Int)) (fun k => (k : Int) * 3) wr hn hbb hrow)
      have HRW := hidC (And.intro hrow hbb)
      clear hrow hbb
      go_upto_region 11 with (go_at_call 10; (with_reducible refine HC10.out.mono ?_); rintro e w3 ⟨kb, kc, rfl, hkr, hb3⟩; have HK3 := hidC (And.intro hkr hb3); clear hkr hb3)
      go_cut [60] from 53 to 60 (fun s60 wc => ∃ bq : Bool, s60 = .bool bq ∧ (bq = true → 0 < n) ∧ wc = w3)
      case first =>
        by_cases h1 : (pk : Int) % 2 = 1
        · have hq : ((pk : Int) % 2 == 1) = true := beq_iff_eq.2 h1
          by_cases h0 : 0 < n
          · have hd : decide ((0 : Int) < (n : Int)) = true := decide_eq_true (by omega)
            go_wp2_with fail
            go_meet
            exact ⟨true, rfl, fun _ => h0, rfl⟩
          · have hd : decide ((0 : Int) < (n : Int)) = false := decide_eq_false (by omega)
            have hd2 : decide (0 < n) = false := decide_eq_false h0
            clear h0
            go_wp2_with fail
            go_meet
            exact ⟨false, rfl, fun h => Bool.noConfusion h, rfl⟩
        · have hq : ((pk : Int) % 2 == 1) = false := beq_eq_false_iff_ne.2 h1
          clear h1
          go_wp2_with fail
          go_meet
          exact ⟨false, rfl, fun h => Bool.noConfusion h, rfl⟩
      case rest =>
        obtain ⟨bq, rfl, hbq, rfl⟩ := hcut
        have HBQ := hidC hbq
        clear hbq
        have HST := hidC (st_of HS.out HF.out HK3.out.1 HK3.out.2)
        clear HS HF HK3 HRW HC10
        generalize w2.heap.size = bb at *
        go_upto_if 60 with fail
        go_cut [1] from 61 to 69 (fun s1 wc' => ∃ x' : Int, s1 = .int .u64 x' ∧ wc' = wc)
        case first =>
          cases bq
          · go_wp2_with fail
            go_meet
            exact ⟨x, rfl, rfl⟩
          · have h0 := HBQ.out rfl
            obtain ⟨g, hso, hcg⟩ := HST.out.get h0
            subst hso
            have hm : pk / 2 % n < n := Nat.mod_lt _ h0
            have hcm := hcg (pk / 2 % n) hm
            clear hcg
            have hne : ¬ (n : Int) = 0 := by omega
            have he : (pk : Int) / 2 % n = ((pk / 2 % n : Nat) : Int) := by rw [Int.natCast_emod, Int.natCast_ediv]; rfl
            have hlo : 0 ≤ (pk : Int) / 2 % n := by rw [he]; omega
            have hhi : (pk : Int) / 2 % n < n := by rw [he]; omega
            clear he
            generalize ys.getD (pk / 2 % n) 0 = ym at *
            go_wp2_with fail
            go_meet
            exact ⟨ym, rfl, rfl⟩
        case rest =>
          obtain ⟨x', rfl, rfl⟩ := hcut
          have k0 : wc.cell? ⟨w.heap.size, 0, none⟩ = some (.int .u64 l0) := by simp [World.cell?, HST.out.box]
          have k1 : wc.cell? ⟨w.heap.size, 1, none⟩ = some (.int .u64 l1) := by simp [World.cell?, HST.out.box]
          have k2 : wc.cell? ⟨w.heap.size, 2, none⟩ = some (.int .u64 l2) := by simp [World.cell?, HST.out.box]
          have k3 : wc.cell? ⟨w.heap.size, 3, none⟩ = some (.int .u64 l3) := by simp [World.cell?, HST.out.box]
          go_upto_region 15 with fail
          have HCU := hidC (p := ∀ W, W = laid2 l0 l1 l2 l3 nn n bb wc → Calls Yba.prog 11 #[.pointer (some ⟨wc.heap.size + 1, 0, none⟩), .int .u64 x'] W
              fun e w' => ∃ i, Low (fun k => ys.getD k 0) n x' i ∧ e = .returned (.agg (curs (wc.heap.size + 1) ((pick3 (fun k => ys.getD k 0) n x' i : Int) - 1))) ∧ Below W.heap.size W w') fun W hW => by
            subst hW
            obtain ⟨f1, f2, f3⟩ := laid2_facts l0 l1 l2 l3 nn n bb wc
            have hst := HST.out.later f1
            exact cursor_any (wc.heap.size + 1) bb n _ _ _ x' _ (cell_rowC f3 rfl) hn hst.r1 (fun _ => hst.hb) hst.asc
          go_cut [15, 16, 17] from 84 to 86 (fun s15 s16 s17 w6 => ∃ i lb cb rb, Low (fun k => ys.getD k 0) n x' i ∧ s15 = .pointer (some ⟨lb, 0, none⟩) ∧ s16 = .pointer (some ⟨cb, 0, none⟩) ∧ s17 = .pointer (some ⟨rb, 0, none⟩) ∧ Fin3 w l0 l1 l2 l3 nn so n ys bb kb lb cb rb ((pick3 (fun k => ys.getD k 0) n x' i : Int) - 1) w6)
          case first =>
            go_wp2_with (go_at_call 11; (with_reducible refine (HCU.out _ ?_).mono ?_); (exact rfl); rintro e w6 ⟨i, hlow, rfl, hb6⟩; have HL6 := hidC (And.intro hlow hb6); clear hlow hb6)
            all_goals (try go_wp2_with fail)
            go_meet
            exact ⟨i, _, _, _, HL6.out.1, rfl, rfl, rfl, fin_of HST.out HL6.out.2⟩
          case rest =>
            obtain ⟨i, lb, cb, rb, hlow, rfl, rfl, rfl, hfin⟩ := hcut
            have HLOW := hidC hlow
            have HFIN := hidC hfin
            have hin := hlow.le
            clear hlow hfin HCU HST k0 k1 k2 k3
            go_wp2
            go_loopw [18, 19] (fun vlo vk wr => ∃ k : Nat, vk = .int .i64 k ∧ k ≤ n ∧ vlo = .int .i64 ((min k i : Nat) : Int) ∧ wr = wc) (fun _ vk _ => n - (intOf vk).toNat)
            case atStart => exact ⟨0, rfl, Nat.zero_le _, by simp, rfl⟩
            case round =>
              obtain ⟨k, rfl, hk, rfl, rfl⟩ := hrel
              by_cases hlt : k < n
              · obtain ⟨g, hso, hcg⟩ := HFIN.out.st.get (by omega)
                subst hso
                have hck := hcg k hlt
                clear hcg
                by_cases hki : k < i
                · have hz : ys.getD k 0 < x' := HLOW.out.below k hki
                  have e1 : min k i = k := by omega
                  rw [e1]
                  generalize ys.getD k 0 = yk at *
                  clear e1
                  go_wp2
                  go_roundw
                  case rel => exact ⟨k + 1, by go_num, by omega, congrArg (Value.int .i64) (by omega), by first | rfl | trivial⟩
                  case measure => simp [intOf]; omega
                · have hz : ¬ ys.getD k 0 < x' := by have := HLOW.out.above k (by omega) hlt; omega
                  have e1 : min k i = i := by omega
                  rw [e1]
                  generalize ys.getD k 0 = yk at *
                  clear e1
                  go_wp2
                  go_roundw
                  case rel => exact ⟨k + 1, by go_num, by omega, congrArg (Value.int .i64) (by omega), by first | rfl | trivial⟩
                  case measure => simp [intOf]; omega
              · obtain rfl : n = k := by omega
                have e1 : min n i = i := by omega
                rw [e1]
                clear e1 hlt hk
                go_upto_region 23 with fail
                go_cut [112] from 101 to 112 (fun s112 wd => ∃ bf : Bool, s112 = .bool bf ∧ (bf = true ↔ (i < n ∧ ys.getD i 0 = x')) ∧ wd = wr)
                case first =>
                  by_cases hlt : i < n
                  · obtain ⟨g, hso, hcg⟩ := HFIN.out.st.get (by omega)
                    subst hso
                    have hck := hcg i hlt
                    clear hcg
                    have hd : decide ((i : Int) < (n : Int)) = true := decide_eq_true (by omega)
                    by_cases hz : ys.getD i 0 = x'
                    · have HQ := hidC (p := true = true ↔ (i < n ∧ ys.getD i 0 = x')) ⟨fun _ => ⟨hlt, hz⟩, fun _ => rfl⟩
                      have hzb : (ys.getD i 0 == x') = true := beq_iff_eq.2 hz
                      clear hz
                      generalize ys.getD i 0 = yi at *
                      go_wp2_with fail
                      go_meet
                      exact ⟨true, rfl, by simpa using HQ.out, rfl⟩
                    · have HQ := hidC (p := false = true ↔ (i < n ∧ ys.getD i 0 = x')) ⟨fun h => Bool.noConfusion h, fun h => absurd h.2 hz⟩
                      have hzb : (ys.getD i 0 == x') = false := beq_eq_false_iff_ne.2 hz
                      clear hz
                      generalize ys.getD i 0 = yi at *
                      go_wp2_with fail
                      go_meet
                      exact ⟨false, rfl, HQ.out, rfl⟩
                  · have HQ := hidC (p := false = true ↔ (i < n ∧ ys.getD i 0 = x')) ⟨fun h => Bool.noConfusion h, fun h => absurd h.1 hlt⟩
                    have hd : decide ((i : Int) < (n : Int)) = false := decide_eq_false (by omega)
                    have hd2 : decide (i < n) = false := decide_eq_false hlt
                    go_wp2_with fail
                    go_meet
                    exact ⟨false, rfl, HQ.out, rfl⟩
                case rest =>
                  obtain ⟨bf, rfl, hbf, rfl⟩ := hcut
                  obtain ⟨j, hj⟩ : ∃ j : Nat, j = pick3 (fun k => ys.getD k 0) n x' i := ⟨_, rfl⟩
                  have HJ := hidC hj
                  have HBF := hidC hbf
                  rw [← hj] at HFIN
                  have hj2 : j ≤ n := by rw [hj]; unfold pick3; split <;> omega
                  clear hj hbf
                  go_upto_if 112 with fail
                  go_cut [20] from 113 to 117 (fun s20 wd => s20 = .int .i64 j ∧ wd = wc)
                  case first =>
                    cases bf
                    · have e1 : j = i - 1 := by rw [HJ.out]; unfold pick3; rw [if_neg (fun h => Bool.noConfusion (HBF.out.2 h))]
                      have HE1 := hidC e1
                      clear e1
                      by_cases h0 : 0 < i
                      · have HE2 := hidC (p := (i : Int) - 1 = j) (by have := HE1.out; omega)
                        go_wp2_with fail
                        go_meet
                        exact ⟨congrArg (Value.int .i64) HE2.out, rfl⟩
                      · obtain rfl : i = 0 := by omega
                        have HE2 := hidC (p := (0 : Int) = j) (by have := HE1.out; omega)
                        go_wp2_with fail
                        go_meet
                        exact ⟨congrArg (Value.int .i64) HE2.out, rfl⟩
                    · have e1 : j = i := by rw [HJ.out]; unfold pick3; rw [if_pos (HBF.out.1 rfl)]
                      have HE1 := hidC e1
                      clear e1
                      go_wp2_with fail
                      go_meet
                      exact ⟨congrArg (Value.int .i64) (by rw [HE1.out]), rfl⟩
                  case rest =>
                    obtain ⟨rfl, rfl⟩ := hcut
                    have HEQ := hidC (p := ∀ m, Calls Yba.prog 12 #[.slice (some ⟨bb, 0, none⟩) n n, .slice (some ⟨kb, 0, none⟩) n kc] (wc.drewN m) fun e w' => e = .returned (.bool true) ∧ ∃ m', w' = (wc.drewN m).drewN m') (fun m => equal3_any bb kb n n kc _ _ _ (wc.drewN m) hn HFIN.out.st.r1 HFIN.out.st.r2)
                    have q0 : wc.cell? ⟨rb, 0, none⟩ = some (.pointer (some ⟨cb, 0, none⟩)) := cell_rowC HFIN.out.rr rfl
                    have q1 : wc.cell? ⟨rb, 1, none⟩ = some (.int .i64 ((j : Int) - 1)) := cell_rowC HFIN.out.rr rfl
                    have q2 : wc.cell? ⟨rb, 2, none⟩ = some (.slice none 0 0) := cell_rowC HFIN.out.rr rfl
                    have q3 : wc.cell? ⟨rb, 3, none⟩ = some (.int .u64 0) := cell_rowC HFIN.out.rr rfl
                    have q4 : wc.cell? ⟨rb, 4, none⟩ = some (.int .u64 0) := cell_rowC HFIN.out.rr rfl
                    have q5 : wc.cell? ⟨rb, 5, none⟩ = some (.int .u64 0) := cell_rowC HFIN.out.rr rfl
                    have q6 : wc.cell? ⟨rb, 6, none⟩ = some (.int .u64 0) := cell_rowC HFIN.out.rr rfl
                    have r0 : wc.cell? ⟨cb, 0, none⟩ = some (.slice (some ⟨bb, 0, none⟩) n n) := cell_rowC HFIN.out.cr rfl
                    have r1 : wc.cell? ⟨cb, 1, none⟩ = some (.slice none 0 0) := cell_rowC HFIN.out.cr rfl
                    have r2 : wc.cell? ⟨cb, 2, none⟩ = some (.int .i64 nn) := cell_rowC HFIN.out.cr rfl
                    have r3 : wc.cell? ⟨cb, 3, none⟩ = some (.int .u64 l0) := cell_rowC HFIN.out.cr rfl
                    have r4 : wc.cell? ⟨cb, 4, none⟩ = some (.int .u64 l1) := cell_rowC HFIN.out.cr rfl
                    have r5 : wc.cell? ⟨cb, 5, none⟩ = some (.int .u64 l2) := cell_rowC HFIN.out.cr rfl
                    have r6 : wc.cell? ⟨cb, 6, none⟩ = some (.int .u64 l3) := cell_rowC HFIN.out.cr rfl
                    have t0 : wc.cell? ⟨lb, 0, none⟩ = some (.int .u64 l0) := cell_rowC HFIN.out.lr rfl
                    have t1 : wc.cell? ⟨lb, 1, none⟩ = some (.int .u64 l1) := cell_rowC HFIN.out.lr rfl
                    have t2 : wc.cell? ⟨lb, 2, none⟩ = some (.int .u64 l2) := cell_rowC HFIN.out.lr rfl
                    have t3 : wc.cell? ⟨lb, 3, none⟩ = some (.int .u64 l3) := cell_rowC HFIN.out.lr rfl
                    have e1 := eqp ⟨cb, 0, none⟩
                    have e2 := eq4 l0 l1 l2 l3
                    have e3 := eq4 0 0 0 0
                    have e4 := eq53
                    have e5 := eq50
                    go_upto_region 28 with fail
                    go_big_quiet (first | (go_at_call 12; exact Calls.quiet_of (HEQ.out _)))
                    go_wp2
                    go_ret
                    exact ⟨rfl, below_drewN HFIN.out.st.low _⟩
end Go.Proofs.Ybulkdxxm
