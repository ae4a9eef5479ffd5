/-
  cursor, for the law S6226C.
-/
import Derived.Test.YbulkdxxmFind
import Derived.Laws.Tables
import Derived.Laws.CopyRow
import Derived.Laws.CopyOwn
import Derived.Deep.OwnRows
namespace Go.Proofs.Ybulkdxxm
open Go.RowKit

theorem run_loadVar_cells {P : Program} {w : World} (ty : TypeId) (a0 : Addr) (cs : Array Value) (d : TypeDesc) (hcell : ∀ (j : Nat) (v : Value), cs[j]? = some v → w.cell? (a0.add j) = some v)
    (hu : P.underlying ty = some d) (hd : (match d with | .struct _ | .array _ _ => true | _ => false) = true) (hi : (P.info? ty).map (·.size) = some cs.size) : (loadVar ty a0).run P w = .ok (.agg cs) w := by
  have hl : (loadCells a0 cs.toList.length).run P w = .ok cs.toList.toArray w :=
    run_loadCells_list (P := P) w a0 cs.toList (fun j v hv => hcell j v (by simpa using hv))
  cases hq : P.info? ty with
  | none => simp [hq] at hi
  | some i =>
    have hs : i.size = cs.size := by simpa [hq] using hi
    have hagg : (isAgg ty).run P w = .ok true w := by
      unfold isAgg
      rw [Sem.run_bind, run_underlying hu w]
      cases d <;> simp_all
    simp only [Array.length_toList, Array.toArray_toList] at hl
    simp [loadVar, Sem.run_bind, hagg, sizeOf, typeInfo, hq, hs, hl]

theorem results_cell {P : Program} {fn : Func} {t : Tmp} {ty : TypeId} {w : World} {a0 : Addr} {v : Value} (h : fn.results = #[.cell t ty]) (tmps : Array Value) (ht : tmps.getD t undef = .pointer (some a0)) (hl : (loadVar ty a0).run P w = .ok v w) :
    (results fn tmps).run P w = .ok v w := by
  have ht' : tmps[t]?.getD undef = .pointer (some a0) := by simpa using ht
  simp [results, h, ht', asAddr, hl]

theorem row_cells {w : World} {g : Nat} {cs : Array Value} {t : TypeId} {z : Nat × Nat} (h : w.heap[g]? = some (.cells cs t z)) : ∀ (j : Nat) (v : Value), cs[j]? = some v → w.cell? ((⟨g, 0, none⟩ : Addr).add j) = some v := fun j v hj => by
  rw [WideShapes.add_plain, Nat.zero_add]
  show (match w.heap[g]? with | some (Obj.cells c _ _) => c[j]? | _ => none) = _
  rw [h]; exact hj

theorem Yba.size55 : (Yba.prog.info? 55).map (·.size) = some 7 := by kernel_rfl

/-- The block that cursor chooses. -/
def pick3 (z : Nat → Int) (n : Nat) (x : Int) (i : Nat) : Nat := if i < n ∧ z i = x then i else i - 1

/-- The cursor. -/
abbrev curs (cb : Nat) (k : Int) : Array Value := #[.pointer (some ⟨cb, 0, none⟩), .int .i64 k, .slice none 0 0, .int .u64 0, .int .u64 0, .int .u64 0, .int .u64 0]

theorem curs_one (cb : Nat) (k : Int) : (curs cb k).all (·.oneCell') = true := by
  simp [curs, Value.oneCell']

set_option maxRecDepth 100000 in
set_option maxHeartbeats 1000000 in
theorem cursor_any (cb b n : Nat) (z p q : Nat → Int) (x : Int) (w : World) (hc : w.cell? ⟨cb, 0, none⟩ = some (.slice (some ⟨b, 0, none⟩) n n)) (hn : n ≤ 1048576) (h : Rows3 w b n z p q) (hb : 0 < n → b < w.heap.size) (hs : ∀ i j, i ≤ j → j < n → z i ≤ z j) :
    Calls Yba.prog 11 #[.pointer (some ⟨cb, 0, none⟩), .int .u64 x] w fun e w' => ∃ i, Low z n x i ∧ e = .returned (.agg (curs cb ((pick3 z n x i : Int) - 1))) ∧ Below w.heap.size w w' := by
  have hA := (Below.refl _ w).alloc (Nat.le_refl _) (.cells #[.pointer none, .int .i64 0, .slice none 0 0, .int .u64 0, .int .u64 0, .int .u64 0, .int .u64 0] 55)
  have hrow := Go.Deep.blk_alloc_new w (.cells #[.pointer none, .int .i64 0, .slice none 0 0, .int .u64 0, .int .u64 0, .int .u64 0, .int .u64 0] 55)
  have hlt := World.block_lt_of_cell? _ _ hc
  have HC := hidC (p := ∀ W, W = w.alloc (.cells #[.pointer none, .int .i64 0, .slice none 0 0, .int .u64 0, .int .u64 0, .int .u64 0, .int .u64 0] 55) → Calls Yba.prog 16 #[.slice (some ⟨b, 0, none⟩) n n, .int .u64 x, .func (.func 17) #[] #[]] W
      fun e w' => ∃ (i : Nat) (fnd : Bool), Low z n x i ∧ (fnd = true ↔ (i < n ∧ z i = x)) ∧ e = .returned (.tuple #[.int .i64 i, .bool fnd]) ∧ Below w.heap.size w w' ∧ w'.heap[w.heap.size]? = some (.cells #[.pointer none, .int .i64 0, .slice none 0 0, .int .u64 0, .int .u64 0, .int .u64 0, .int .u64 0] 55 (0, 0))) fun W hW => by
    subst hW
    refine (search_any b n n z p q x _ hn (fun k hk => ?_) (fun h0 => ?_) hs).mono ?_
    · by_cases h0 : 0 < n
      · exact h.below hA (hb h0) k hk
      · omega
    · have := hb h0; simp; omega
    · rintro e w' ⟨i, h1, h2, h3⟩
      exact ⟨i, _, h1, by simp, h2, hA.trans (h3.mono (by simp)), (h3.block _ (by simp)).trans hrow⟩
  clear h hs hA hrow
  go_enter Yba.func11, Yba.ntmps11
  go_upto_region 2 with (go_at_call 16; (with_reducible refine (HC.out _ ?_).mono ?_); (exact rfl); rintro e w1 ⟨i, fnd, hlow, hfnd, rfl, hb1, hr1⟩; have HFN := hidC hfnd; have HL := hidC hlow; have HB := hidC hb1; have HR := hidC hr1; have hle := hlow.le; clear hlow hb1 hr1 hfnd)
  cases fnd
  · have HP := hidC (p := pick3 z n x i = i - 1) (by unfold pick3; rw [if_neg (fun h => Bool.noConfusion (HFN.out.2 h))])
    clear HFN
    by_cases h0 : 0 < i
    · have HP2 := hidC (p := (i : Int) - 1 - 1 = ((i - 1 : Nat) : Int) - 1) (by omega)
      go_wp2_with (refine wpList_store_row rfl 55 (.tmp 4) (.tmp 27) rfl w.heap.size (curs cb ((i : Int) - 1 - 1)) rfl rfl 55 _ HR.out Yba.size55 rfl (curs_one _ _) ?_)
      have hld := run_loadVar_cells (P := Yba.prog) 55 ⟨w.heap.size, 0, none⟩ (curs cb ((i : Int) - 1 - 1)) _ (row_cells (setRow_heap w1 w.heap.size _ (curs cb ((i : Int) - 1 - 1)) 55 _ HR.out)) Yba.underlying55 rfl Yba.size55
      refine bodyPost_ret (results_cell Yba.results11 _ rfl hld) rfl ?_
      exact ⟨i, HL.out, by rw [HP.out, ← HP2.out], below_setRow HB.out (Nat.le_refl _) _⟩
    · obtain rfl : i = 0 := by omega
      go_wp2_with (refine wpList_store_row rfl 55 (.tmp 4) (.tmp 27) rfl w.heap.size (curs cb (-1)) rfl rfl 55 _ HR.out Yba.size55 rfl (curs_one _ _) ?_)
      have hld := run_loadVar_cells (P := Yba.prog) 55 ⟨w.heap.size, 0, none⟩ (curs cb (-1)) _ (row_cells (setRow_heap w1 w.heap.size _ (curs cb (-1)) 55 _ HR.out)) Yba.underlying55 rfl Yba.size55
      refine bodyPost_ret (results_cell Yba.results11 _ rfl hld) rfl ?_
      exact ⟨0, HL.out, by rw [HP.out]; rfl, below_setRow HB.out (Nat.le_refl _) _⟩
  · have HP := hidC (p := pick3 z n x i = i) (by unfold pick3; rw [if_pos (HFN.out.1 rfl)])
    clear HFN
    go_wp2_with (refine wpList_store_row rfl 55 (.tmp 4) (.tmp 27) rfl w.heap.size (curs cb ((i : Int) - 1)) rfl rfl 55 _ HR.out Yba.size55 rfl (curs_one _ _) ?_)
    have hld := run_loadVar_cells (P := Yba.prog) 55 ⟨w.heap.size, 0, none⟩ (curs cb ((i : Int) - 1)) _ (row_cells (setRow_heap w1 w.heap.size _ (curs cb ((i : Int) - 1)) 55 _ HR.out)) Yba.underlying55 rfl Yba.size55
    refine bodyPost_ret (results_cell Yba.results11 _ rfl hld) rfl ?_
    exact ⟨i, HL.out, by rw [HP.out], below_setRow HB.out (Nat.le_refl _) _⟩
end Go.Proofs.Ybulkdxxm
