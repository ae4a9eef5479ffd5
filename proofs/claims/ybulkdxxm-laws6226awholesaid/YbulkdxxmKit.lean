/-
  Small laws, of whatever program, that the walks over this seat's dump want.
-/
import Derived.Test.YbulkdxxmRows
import Derived.WalkKit
import Derived.WalkSpells
import Derived.WalkLawsBesides
import Derived.Deep.QuietTactic
import Derived.BigQuiet
import Derived.Deep.OwnRows
import Derived.Laws.Rows
import Derived.Laws.IdiomCopy
import Derived.Laws.EntriesVeiled
import Derived.Deep.LoopGhost
namespace Go.Proofs.Ybulkdxxm
open Go.RowKit

/-- A whole array or struct read out of cells that are known. -/
theorem wpList_load_cells {P : Program} {ops : Array Oper} {rest : List Oper} {o : Oper} {a : Act} {w : World} {Q : Exit → Act → World → Prop} (hgd : o.guard = none) (ty : TypeId) (x : Operand) (ho : o.op = .load ty x)
    (a0 : Addr) (hx : a.eval x = .pointer (some a0)) (cs : Array Value) (d : TypeDesc) (hcell : ∀ (j : Nat) (v : Value), cs[j]? = some v → w.cell? (a0.add j) = some v)
    (hu : P.underlying ty = some d) (hd : (match d with | .struct _ | .array _ _ => true | _ => false) = true) (hi : (P.info? ty).map (·.size) = some cs.size)
    (h : wpList P ops Q rest (a.put o.dst (.agg cs)) w) : wpList P ops Q (o :: rest) a w := by
  refine wpList_plain hgd fun K hK => ?_
  have hl : (loadCells a0 cs.toList.length).run P w = .ok cs.toList.toArray w :=
    run_loadCells_list (P := P) w a0 cs.toList (fun j v hv => hcell j v (by simpa using hv))
  have hrun : (loadVar ty a0).run P w = .ok (.agg cs) w := by
    cases hq : P.info? ty with
    | none => simp [hq] at hi
    | some i =>
      have hs : i.size = cs.size := by simpa [hq] using hi
      have hagg : (isAgg ty).run P w = .ok true w := by
        unfold isAgg
        rw [Sem.run_bind, run_underlying hu w]
        cases d <;> simp_all
      simp only [Array.length_toList, Array.toArray_toList] at hl
      simp [loadVar, Sem.run_bind, hagg, sizeOf, typeInfo, hq, hs, hl]
  unfold Oper.wp execOp
  simp only [ho, hx, Instr.loadAt, Instr.sureAddr, Sem.run_bind, Sem.run_pure, Result.andThen_ok, hrun]
  exact hK _ _ h

theorem world_eq {a b : World} (h1 : a.heap = b.heap) (h2 : a.tape = b.tape) (h3 : a.drawn = b.drawn) (h4 : a.os = b.os) (h5 : a.output = b.output) : a = b := by
  cases a; cases b; simp_all

theorem setRow_new (w : World) (old cells : Array Value) (t : TypeId) : (w.alloc (.cells old t)).setRow w.heap.size cells = w.alloc (.cells cells t) := by
  refine world_eq ?_ rfl rfl rfl rfl
  apply Array.ext_getElem?
  intro i
  by_cases h : w.heap.size = i
  · subst h
    rw [setRow_heap _ _ old cells t (0, 0) (Go.Deep.blk_alloc_new _ _), Go.Deep.blk_alloc_new]
  · rw [setRow_other _ _ _ _ (by omega)]
    by_cases h2 : i < w.heap.size
    · rw [Below.heap_alloc _ _ _ h2, Below.heap_alloc _ _ _ h2]
    · rw [Array.getElem?_eq_none (by simp; omega), Array.getElem?_eq_none (by simp; omega)]

/-- A whole value stored into the block that was laid last. -/
theorem wpList_store_new {P : Program} {ops : Array Oper} {rest : List Oper} {o : Oper} {a : Act} {w : World} {Q : Exit → Act → World → Prop} (hgd : o.guard = none) (ty : TypeId) (x y : Operand) (ho : o.op = .store ty x y)
    (W : World) (t : TypeId) (old : Array Value) (hw : w = W.alloc (.cells old t)) (g : Nat) (hg : g = W.heap.size) (cells : Array Value) (hx : a.eval x = .pointer (some ⟨g, 0, none⟩)) (hy : a.eval y = .agg cells)
    (hi : (P.info? ty).map (·.size) = some cells.size)
    (hold : old.size = cells.size) (h1 : cells.all (·.oneCell') = true)
    (h : wpList P ops Q rest (a.put o.dst undef) (W.alloc (.cells cells t))) : wpList P ops Q (o :: rest) a w := by
  subst hg hw
  refine wpList_store_row hgd ty x y ho W.heap.size cells hx hy t old (Go.Deep.blk_alloc_new _ _) hi hold h1 ?_
  rw [setRow_new]
  exact h

/-- A whole value stored over cells that are there. -/
theorem wpList_store_cells {P : Program} {ops : Array Oper} {rest : List Oper} {o : Oper} {a : Act} {w : World} {Q : Exit → Act → World → Prop} (hgd : o.guard = none) (ty : TypeId) (x y : Operand) (ho : o.op = .store ty x y)
    (b off : Nat) (cells : Array Value) (hx : a.eval x = .pointer (some ⟨b, off, none⟩)) (hy : a.eval y = .agg cells)
    (hi : (P.info? ty).map (·.size) = some cells.size) (hc : ∀ j, j < cells.size → (w.cell? ⟨b, off + j, none⟩).isSome = true) (hf : ∀ j, j < cells.size → w.frozen? ⟨b, off + j, none⟩ = false) (h1 : cells.all (·.oneCell') = true)
    (h : wpList P ops Q rest (a.put o.dst undef) (w.setCells b off cells.toList)) : wpList P ops Q (o :: rest) a w := by
  refine wpList_plain hgd fun K hK => ?_
  have hrun : (storeVar ty ⟨b, off, none⟩ (.agg cells)).run P w = .ok () (w.setCells b off cells.toList) := by
    have := run_storeCells_cells (P := P) b off cells.toList 0 w (fun j hj => by simpa using hc j (by simpa using hj)) (fun j hj => by simpa using hf j (by simpa using hj)) (fun v hv => (Array.all_eq_true_iff_forall_mem.1 h1) v (by simpa using hv))
    cases hq : P.info? ty with
    | none => simp [hq] at hi
    | some i =>
      have hs : cells.size = i.size := by simp [hq] at hi; omega
      simp only [Nat.add_zero] at this
      simp [storeVar, sizeOf, typeInfo, hq, Value.cells, hs, this]
  unfold Oper.wp execOp
  simp only [ho, hx, hy, Instr.storeAt, Instr.sureAddr, Sem.run_bind, Sem.run_pure, Result.andThen_ok, hrun]
  exact hK _ _ h

/-- What stands below 'base' is as it was, but for block 'L'. -/
structure Kept (base L : Nat) (w w' : World) : Prop where
  os : w'.os = w.os
  tape : w'.tape = w.tape
  output : w'.output = w.output
  size : w.heap.size ≤ w'.heap.size
  block : ∀ k, k < base → k ≠ L → w'.heap[k]? = w.heap[k]?

theorem Kept.refl (base L : Nat) (w : World) : Kept base L w w := ⟨rfl, rfl, rfl, Nat.le_refl _, fun _ _ _ => rfl⟩
theorem Kept.trans {base L : Nat} {a b c : World} (h : Kept base L a b) (k : Kept base L b c) : Kept base L a c :=
  ⟨k.os.trans h.os, k.tape.trans h.tape, k.output.trans h.output, Nat.le_trans h.size k.size, fun i hi hl => (k.block i hi hl).trans (h.block i hi hl)⟩
theorem Kept.of_below {base L : Nat} {a b : World} (h : Below base a b) : Kept base L a b := ⟨h.os, h.tape, h.output, h.size, fun k hk _ => h.block k hk⟩
theorem Kept.setCell {base L : Nat} {a w : World} (h : Kept base L a w) (i : Nat) (u : Value) : Kept base L a (w.setCell ⟨L, i, none⟩ u) :=
  h.trans ⟨rfl, rfl, rfl, by simp [World.setCell], fun k _ hk => Below.heap_setCell _ _ _ _ hk⟩
theorem Kept.cell {base L : Nat} {w w' : World} (h : Kept base L w w') {p : Addr} (hp : p.block < base) (hl : p.block ≠ L) : w'.cell? p = w.cell? p := World.cell?_of_block (w := w) (h.block p.block hp hl)
theorem Kept.frozen {base L : Nat} {w w' : World} (h : Kept base L w w') {p : Addr} (hp : p.block < base) (hl : p.block ≠ L) : w'.frozen? p = w.frozen? p := World.frozen?_of_block (w := w) (h.block p.block hp hl)
theorem Kept.below {base L B : Nat} {w w' : World} (h : Kept base L w w') (hB : B ≤ base) (hL : B ≤ L) : Below B w w' := ⟨h.os, h.tape, h.output, h.size, fun k hk => h.block k (by omega) (by omega)⟩
theorem Kept.drewN {base L : Nat} {a w : World} (h : Kept base L a w) (n : Nat) : Kept base L a (w.drewN n) := ⟨h.os, h.tape, h.output, h.size, h.block⟩

theorem Yba.info3 : (Yba.prog.info? 3).map (fun i => (i.zero, i.size, i.bytes)) = some (some (.int .i64 0), 1, 8) := by kernel_rfl

end Go.Proofs.Ybulkdxxm
