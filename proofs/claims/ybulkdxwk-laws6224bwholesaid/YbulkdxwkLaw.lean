import Derived.Test.YbulkdxwkWalk
import Derived.Laws.Rows
import Derived.Deep.OwnRows
import Derived.ChangeKeysEq
namespace Go.Proofs.Ybulkdxwk
open Go.RowKit
attribute [local go_sem] run_store_float

/-- A whole array or struct read out of cells that are known. -/
theorem wpList_load_cells {P : Program} {ops : Array Oper} {rest : List Oper} {o : Oper} {a : Act} {w : World} {Q : Exit → Act → World → Prop} (hgd : o.guard = none) (ty : TypeId) (x : Operand) (ho : o.op = .load ty x)
    (a0 : Addr) (hx : a.eval x = .pointer (some a0)) (cs : Array Value) (d : TypeDesc) (hcell : ∀ j v, cs[j]? = some v → w.cell? (a0.add j) = some v)
    (hu : P.underlying ty = some d) (hd : (match d with | .struct _ | .array _ _ => true | _ => false) = true) (hi : (P.info? ty).map (·.size) = some cs.size)
    (h : wpList P ops Q rest (a.put o.dst (.agg cs)) w) : wpList P ops Q (o :: rest) a w := by
  refine wpList_plain hgd fun K hK => ?_
  have hl : (loadCells a0 cs.toList.length).run P w = .ok cs.toList.toArray w :=
    run_loadCells_list (P := P) w a0 cs.toList (fun j v hv => hcell j v (by simpa using hv))
  have hrun : (loadVar ty a0).run P w = .ok (.agg cs) w := by
    cases hq : P.info? ty with
    | none => simp [hq] at hi
    | some i =>
      have hs : i.size = cs.size := by simpa [hq] using hi
      have hagg : (isAgg ty).run P w = .ok true w := by
        unfold isAgg
        rw [Sem.run_bind, run_underlying hu w]
        cases d <;> simp_all
      simp only [Array.length_toList, Array.toArray_toList] at hl
      simp [loadVar, Sem.run_bind, hagg, sizeOf, typeInfo, hq, hs, hl]
  unfold Oper.wp execOp
  simp only [ho, hx, Instr.loadAt, Instr.sureAddr, Sem.run_bind, Sem.run_pure, Result.andThen_ok, hrun]
  exact hK _ _ h

theorem world_eq {a b : World} (h1 : a.heap = b.heap) (h2 : a.tape = b.tape) (h3 : a.drawn = b.drawn) (h4 : a.os = b.os) (h5 : a.output = b.output) : a = b := by
  cases a; cases b; simp_all

theorem setRow_new (w : World) (old cells : Array Value) (t : TypeId) : (w.alloc (.cells old t)).setRow w.heap.size cells = w.alloc (.cells cells t) := by
  refine world_eq ?_ rfl rfl rfl rfl
  apply Array.ext_getElem?
  intro i
  by_cases h : w.heap.size = i
  · subst h
    rw [setRow_heap _ _ old cells t (0, 0) (Go.Deep.blk_alloc_new _ _), Go.Deep.blk_alloc_new]
  · rw [setRow_other _ _ _ _ (by omega)]
    by_cases h2 : i < w.heap.size
    · rw [Below.heap_alloc _ _ _ h2, Below.heap_alloc _ _ _ h2]
    · rw [Array.getElem?_eq_none (by simp; omega), Array.getElem?_eq_none (by simp; omega)]

/-- A whole value stored into the block that was laid last. -/
theorem wpList_store_new {P : Program} {ops : Array Oper} {rest : List Oper} {o : Oper} {a : Act} {w : World} {Q : Exit → Act → World → Prop} (hgd : o.guard = none) (ty : TypeId) (x y : Operand) (ho : o.op = .store ty x y)
    (g : Nat) (hg : g = w.heap.size) (cells : Array Value) (hx : a.eval x = .pointer (some ⟨g, 0, none⟩)) (hy : a.eval y = .agg cells)
    (t : TypeId) (old : Array Value) (hi : (P.info? ty).map (·.size) = some cells.size)
    (hold : old.size = cells.size) (h1 : cells.all (·.oneCell') = true)
    (h : wpList P ops Q rest (a.put o.dst undef) (w.alloc (.cells cells t))) : wpList P ops Q (o :: rest) a (w.alloc (.cells old t)) := by
  subst hg
  refine wpList_store_row hgd ty x y ho w.heap.size cells hx hy t old (Go.Deep.blk_alloc_new _ _) hi hold h1 ?_
  rw [setRow_new]
  exact h

/-- A struct put together out of parts that are known. -/
theorem wpList_build_to {P : Program} {ops : Array Oper} {rest : List Oper} {o : Oper} {a : Act} {w : World} {Q : Exit → Act → World → Prop} (hg : o.guard = none) (t : TypeId) (parts : Array (Nat × Operand)) (ho : o.op = .build t parts)
    (vs : Array (Nat × Value)) (hv : (parts.map fun (i, x) => (i, a.eval x)) = vs) (B : Array Value) (hrun : (Instr.build t vs).run P w = .ok (.agg B) w)
    (h : wpList P ops Q rest (a.put o.dst (.agg B)) w) : wpList P ops Q (o :: rest) a w := by
  refine wpList_plain hg fun K hK => ?_
  unfold Oper.wp execOp
  simp only [ho, hv, Sem.run_bind, hrun, Result.andThen_ok]
  exact hK _ _ h

theorem Yba.size24 : (Yba.prog.info? 24).map (·.size) = some 20 := by kernel_rfl
theorem Yba.size28 : (Yba.prog.info? 28).map (·.size) = some 21 := by kernel_rfl
theorem Yba.size5 : (Yba.prog.info? 5).map (·.size) = some 1 := by kernel_rfl
theorem Yba.cells5 : Yba.prog.cellsOf 5 = 1 := by kernel_rfl
theorem Yba.plain5 : Yba.prog.plainKey 5 = true := by kernel_rfl

theorem eq_items (A : Array Value) (hA : ∀ i, i < 20 → ∃ z, A[i]? = some (.int .u8 z)) : ∀ (is : List Nat), (∀ i ∈ is, i < 20) → ∀ w, (Op.eqItems 9999 5 1 A A is).run Yba.prog w = .ok true w
  | [], _, w => by simp [Op.eqItems]
  | i :: is, h, w => by
    obtain ⟨z, hz⟩ := hA i (h i (by simp))
    have p1 := run_part_plain (P := Yba.prog) w Yba.plain5 (off := i * 1) (by simpa using hz)
    have p3 := run_equalIn_int (P := Yba.prog) w 9998 5 .u8 .u8 z z Yba.underlying5
    have ih := eq_items A hA is (fun j hj => h j (by simp [hj])) w
    simp only [Op.eqItems, Sem.run_bind, p1, p3, Result.andThen_ok]
    simpa using ih

theorem same_arr (A : Array Value) (hA : ∀ i, i < 20 → ∃ z, A[i]? = some (.int .u8 z)) (w : World) : (Op.equalIn 10000 24 (.agg A) (.agg A)).run Yba.prog w = .ok true w := by
  obtain ⟨i5, hi5, _⟩ := Option.map_eq_some_iff.1 Yba.size5
  rw [run_equalIn_array w 9999 A A Yba.underlying24 hi5, Yba.cells5]
  exact eq_items A hA _ (fun i hi => by simpa using hi) w

/-- What the law's walk wants to know of the state's cells A and of the node's cells B, and of the two callees over them. -/
structure Known (rc mm h sd : Int) (qb : Nat) (A B : Array Value) : Prop where
  sizeA : A.size = 20
  sizeB : B.size = 21
  oneB : B.all (·.oneCell') = true
  bytes : ∀ i : Nat, i < 20 → ∃ z, A[i]? = some (.int .u8 z)
  first : ∀ (j : Nat) (v : Value), A[j]? = some v → B[j]? = some v
  last : B[20]? = some (.int .i64 h)
  build : ∀ W : World, (Instr.build 28 #[(0, .agg A), (1, .int .i64 h)]).run Yba.prog W = .ok (.agg B) W
  calls : ∀ W : World, ∃ res : Int, (Calls Yba.prog 4 #[.agg #[.int .i64 rc, .float .f64 qb, .int .i64 mm, .int .u32 sd], .agg B] W fun e w' => e = .returned (.int .i64 res) ∧ Below W.heap.size W w') ∧
    ∀ W' : World, Calls Yba.prog 5 #[.int .i64 rc, .float .f64 qb, .int .i64 mm, .agg A, .int .i64 h] W' fun e w' => e = .returned (.int .i64 res) ∧ Below W'.heap.size W' w'

theorem known (rc mm h sd : Int) (qb : Nat) (s0 s1 s2 s3 s4 s5 s6 s7 s8 s9 s10 s11 s12 s13 s14 s15 s16 s17 s18 s19 : Int) (b16 : 0 ≤ s16 ∧ s16 ≤ 255) (b17 : 0 ≤ s17 ∧ s17 ≤ 255) (b18 : 0 ≤ s18 ∧ s18 ≤ 255) (b19 : 0 ≤ s19 ∧ s19 ≤ 255) : Known rc mm h sd qb #[.int .u8 s0, .int .u8 s1, .int .u8 s2, .int .u8 s3, .int .u8 s4, .int .u8 s5, .int .u8 s6, .int .u8 s7, .int .u8 s8, .int .u8 s9, .int .u8 s10, .int .u8 s11, .int .u8 s12, .int .u8 s13, .int .u8 s14, .int .u8 s15, .int .u8 s16, .int .u8 s17, .int .u8 s18, .int .u8 s19] #[.int .u8 s0, .int .u8 s1, .int .u8 s2, .int .u8 s3, .int .u8 s4, .int .u8 s5, .int .u8 s6, .int .u8 s7, .int .u8 s8, .int .u8 s9, .int .u8 s10, .int .u8 s11, .int .u8 s12, .int .u8 s13, .int .u8 s14, .int .u8 s15, .int .u8 s16, .int .u8 s17, .int .u8 s18, .int .u8 s19, .int .i64 h] where
  sizeA := rfl
  sizeB := rfl
  oneB := by simp [Value.oneCell']
  bytes := fun i hi => by
    match i, hi with
    | 0, _ => exact ⟨_, rfl⟩
    | 1, _ => exact ⟨_, rfl⟩
    | 2, _ => exact ⟨_, rfl⟩
    | 3, _ => exact ⟨_, rfl⟩
    | 4, _ => exact ⟨_, rfl⟩
    | 5, _ => exact ⟨_, rfl⟩
    | 6, _ => exact ⟨_, rfl⟩
    | 7, _ => exact ⟨_, rfl⟩
    | 8, _ => exact ⟨_, rfl⟩
    | 9, _ => exact ⟨_, rfl⟩
    | 10, _ => exact ⟨_, rfl⟩
    | 11, _ => exact ⟨_, rfl⟩
    | 12, _ => exact ⟨_, rfl⟩
    | 13, _ => exact ⟨_, rfl⟩
    | 14, _ => exact ⟨_, rfl⟩
    | 15, _ => exact ⟨_, rfl⟩
    | 16, _ => exact ⟨_, rfl⟩
    | 17, _ => exact ⟨_, rfl⟩
    | 18, _ => exact ⟨_, rfl⟩
    | 19, _ => exact ⟨_, rfl⟩
    | n + 20, hi => omega
  first := fun j v hj => by
    match j, hj with
    | 0, hj => exact hj
    | 1, hj => exact hj
    | 2, hj => exact hj
    | 3, hj => exact hj
    | 4, hj => exact hj
    | 5, hj => exact hj
    | 6, hj => exact hj
    | 7, hj => exact hj
    | 8, hj => exact hj
    | 9, hj => exact hj
    | 10, hj => exact hj
    | 11, hj => exact hj
    | 12, hj => exact hj
    | 13, hj => exact hj
    | 14, hj => exact hj
    | 15, hj => exact hj
    | 16, hj => exact hj
    | 17, hj => exact hj
    | 18, hj => exact hj
    | 19, hj => exact hj
    | n + 20, hj => simp at hj
  last := rfl
  build := fun W => run_build W 28 _ _ (by kernel_rfl)
  calls := fun W => by
    by_cases h0 : h = 0
    · subst h0
      exact ⟨rc, num_zero rc mm sd qb s0 s1 s2 s3 s4 s5 s6 s7 s8 s9 s10 s11 s12 s13 s14 s15 s16 s17 s18 s19 W, fun W' => (model_zero rc mm qb s0 s1 s2 s3 s4 s5 s6 s7 s8 s9 s10 s11 s12 s13 s14 s15 s16 s17 s18 s19 W').mono fun e w' ⟨he, hw⟩ => ⟨he, by rw [hw]; exact (Below.refl _ _).alloc (Nat.le_refl _) _⟩⟩
    · have hh : (h == 0) = false := beq_eq_false_iff_ne.2 h0
      obtain ⟨l0, l1⟩ := low31_bounds s16 s17 s18 s19 b17 b18 b19
      obtain ⟨d, lb, hd, hlb, hm⟩ := both Yba.prog (low31 s16 s17 s18 s19) l0 l1 qb
      exact ⟨_, num_any rc mm h sd qb d s0 s1 s2 s3 s4 s5 s6 s7 s8 s9 s10 s11 s12 s13 s14 s15 s16 s17 s18 s19 W hh b16 b17 b18 b19 lb hd hlb, fun W' => (model_any rc mm h qb s0 s1 s2 s3 s4 s5 s6 s7 s8 s9 s10 s11 s12 s13 s14 s15 s16 s17 s18 s19 W' hh b16 b17 b18 b19 lb (hm _)).mono fun e w' ⟨he, n, hw⟩ => ⟨he, by rw [hw]; exact below_drewN ((Below.refl _ _).alloc (Nat.le_refl _) _) _⟩⟩

theorem behind {A B : Array Value} {rc mm sd : Int} {qb : Nat} {w w1 : World}
    (hb : Below (((w.alloc (.cells A 24)).alloc (.cells #[.int .i64 rc, .float .f64 qb, .int .i64 mm, .int .u32 sd] 26)).alloc (.cells B 28)).heap.size (((w.alloc (.cells A 24)).alloc (.cells #[.int .i64 rc, .float .f64 qb, .int .i64 mm, .int .u32 sd] 26)).alloc (.cells B 28)) w1) :
    (Below w.heap.size w w1 ∧ w.heap.size + 3 ≤ w1.heap.size) ∧ (∀ (j : Nat) (v : Value), A[j]? = some v → w1.cell? ((⟨w.heap.size, 0, none⟩ : Addr).add j) = some v) ∧
    (∀ (j : Nat) (v : Value), B[j]? = some v → w1.cell? ((⟨w.heap.size + 1 + 1, 0, none⟩ : Addr).add j) = some v) ∧ w1.cell? ⟨w.heap.size + 1, 0, none⟩ = some (.int .i64 rc) ∧ w1.cell? ⟨w.heap.size + 1, 2, none⟩ = some (.int .i64 mm) ∧ w1.cell? ⟨w.heap.size + 1, 3, none⟩ = some (.int .u32 sd) := by
  have hs := hb.size
  simp at hs
  have tt : ∀ i, w1.cell? ⟨w.heap.size + 1, i, none⟩ = (#[Value.int .i64 rc, .float .f64 qb, .int .i64 mm, .int .u32 sd])[i]? := fun i => by
    rw [hb.cell (by simp), World.cell?_alloc_lt _ _ _ (by simp), World.cell?_alloc_at (hn := by simp)]
  refine ⟨⟨((((Below.refl w.heap.size w).alloc (Nat.le_refl _) _).alloc (by simp) _).alloc (by simp; omega) _).trans (hb.mono (by simp; omega)), by omega⟩, fun j v hj => ?_, fun j v hj => ?_, tt 0, tt 2, tt 3⟩
  · rw [WideShapes.add_plain, Nat.zero_add, hb.cell (by simp; omega), World.cell?_alloc_lt _ _ _ (by simp; omega), World.cell?_alloc_lt _ _ _ (by simp), World.cell?_alloc_at (hn := rfl)]; exact hj
  · rw [WideShapes.add_plain, Nat.zero_add, hb.cell (by simp), World.cell?_alloc_at (hn := by simp)]; exact hj

theorem behind2 {A B : Array Value} {rc mm sd h : Int} {w w1 w2 : World} (h1 : Below w.heap.size w w1 ∧ w.heap.size + 3 ≤ w1.heap.size)
    (hA : ∀ (j : Nat) (v : Value), A[j]? = some v → w1.cell? ((⟨w.heap.size, 0, none⟩ : Addr).add j) = some v) (hB : ∀ (j : Nat) (v : Value), B[j]? = some v → w1.cell? ((⟨w.heap.size + 1 + 1, 0, none⟩ : Addr).add j) = some v)
    (t0 : w1.cell? ⟨w.heap.size + 1, 0, none⟩ = some (.int .i64 rc)) (t2 : w1.cell? ⟨w.heap.size + 1, 2, none⟩ = some (.int .i64 mm)) (t3 : w1.cell? ⟨w.heap.size + 1, 3, none⟩ = some (.int .u32 sd))
    (hb : Below w1.heap.size w1 w2) (hf : ∀ (j : Nat) (v : Value), A[j]? = some v → B[j]? = some v) (hl : B[20]? = some (.int .i64 h)) :
    Below w.heap.size w w2 ∧ (∀ (j : Nat) (v : Value), A[j]? = some v → w2.cell? ((⟨w.heap.size, 0, none⟩ : Addr).add j) = some v) ∧ (∀ (j : Nat) (v : Value), A[j]? = some v → w2.cell? ((⟨w.heap.size + 1 + 1, 0, none⟩ : Addr).add j) = some v) ∧
    w2.cell? ⟨w.heap.size + 1, 0, none⟩ = some (.int .i64 rc) ∧ w2.cell? ⟨w.heap.size + 1, 2, none⟩ = some (.int .i64 mm) ∧ w2.cell? ⟨w.heap.size + 1, 3, none⟩ = some (.int .u32 sd) ∧ w2.cell? ⟨w.heap.size + 1 + 1, 20, none⟩ = some (.int .i64 h) := by
  obtain ⟨h1, hs⟩ := h1
  refine ⟨h1.trans (hb.mono (by omega)), fun j v hj => ?_, fun j v hj => ?_, ?_, ?_, ?_, ?_⟩
  · rw [hb.cell (by rw [WideShapes.add_plain]; simp; omega)]; exact hA j v hj
  · rw [hb.cell (by rw [WideShapes.add_plain]; simp; omega)]; exact hB j v (hf j v hj)
  · rw [hb.cell (by simp; omega)]; exact t0
  · rw [hb.cell (by simp; omega)]; exact t2
  · rw [hb.cell (by simp; omega)]; exact t3
  · rw [hb.cell (by simp; omega)]
    have := hB 20 _ hl
    rwa [WideShapes.add_plain, Nat.zero_add] at this

set_option maxHeartbeats 1000000 in
theorem law_core (rc mm h sd : Int) (qb : Nat) (A B : Array Value) (w : World) (hK : Known rc mm h sd qb A B) :
    Calls Yba.prog 3 #[.int .i64 rc, .float .f64 qb, .int .i64 mm, .int .u32 sd, .agg A, .int .i64 h] w fun e w' => e = .returned (.bool true) ∧ Below w.heap.size w w' := by
  have HK := show Hid (Known rc mm h sd qb A B) from hK
  have hbuild := hK.build
  have hsame := same_arr A hK.bytes
  clear hK
  -- the cells of A behind the first two blocks, of B behind all three
  have HA2 := show Hid (∀ (j : Nat) (v : Value), A[j]? = some v → ((w.alloc (.cells A 24)).alloc (.cells #[.int .i64 rc, .float .f64 qb, .int .i64 mm, .int .u32 sd] 26)).cell? ((⟨w.heap.size, 0, none⟩ : Addr).add j) = some v) from fun (j : Nat) (v : Value) hj => by
    rw [WideShapes.add_plain, Nat.zero_add, World.cell?_alloc_lt _ _ _ (by simp)]
    rw [World.cell?_alloc_at (hn := rfl)]; exact hj
  have HB3 := show Hid (∀ (j : Nat) (v : Value), B[j]? = some v → (((w.alloc (.cells A 24)).alloc (.cells #[.int .i64 rc, .float .f64 qb, .int .i64 mm, .int .u32 sd] 26)).alloc (.cells B 28)).cell? ((⟨w.heap.size + 1 + 1, 0, none⟩ : Addr).add j) = some v) from fun (j : Nat) (v : Value) hj => by
    rw [WideShapes.add_plain, Nat.zero_add, World.cell?_alloc_at (hn := by simp)]; exact hj
  go_enter Yba.func3, Yba.ntmps3
  go_wp2_with (first
    | refine wpList_load_cells rfl 24 (.tmp 10) rfl ⟨w.heap.size, 0, none⟩ rfl A _ HA2.out Yba.underlying24 rfl (by rw [HK.out.sizeA]; exact Yba.size24) ?_
    | refine wpList_build_to rfl 28 #[(0, .tmp 21), (1, .tmp 22)] rfl #[(0, .agg A), (1, .int .i64 h)] (by simp [Act.eval]) B (hbuild _) ?_
    | refine wpList_store_new rfl 28 (.tmp 14) (.tmp 23) rfl (w.heap.size + 1 + 1) (by simp) B rfl rfl 28 _ (by rw [HK.out.sizeB]; exact Yba.size28) (by rw [HK.out.sizeB]; rfl) HK.out.oneB ?_
    | refine wpList_load_cells rfl 28 (.tmp 14) rfl ⟨w.heap.size + 1 + 1, 0, none⟩ rfl B _ HB3.out Yba.underlying28 rfl (by rw [HK.out.sizeB]; exact Yba.size28) ?_)
  obtain ⟨res, h4, h5⟩ := HK.out.calls (((w.alloc (.cells A 24)).alloc (.cells #[.int .i64 rc, .float .f64 qb, .int .i64 mm, .int .u32 sd] 26)).alloc (.cells B 28))
  have H5 := show Hid (∀ W' : World, Calls Yba.prog 5 #[.int .i64 rc, .float .f64 qb, .int .i64 mm, .agg A, .int .i64 h] W' fun e w' => e = .returned (.int .i64 res) ∧ Below W'.heap.size W' w') from h5
  clear h5
  refine h4.mono ?_
  clear h4
  rintro e w1 ⟨rfl, hb1⟩
  obtain ⟨hbw, hA1, hB1, t0, t2, t3⟩ := behind hb1
  have HB1 := show Hid (Below w.heap.size w w1 ∧ w.heap.size + 3 ≤ w1.heap.size) from hbw
  have HAw := show Hid (∀ (j : Nat) (v : Value), A[j]? = some v → w1.cell? ((⟨w.heap.size, 0, none⟩ : Addr).add j) = some v) from hA1
  have HBw := show Hid (∀ (j : Nat) (v : Value), B[j]? = some v → w1.cell? ((⟨w.heap.size + 1 + 1, 0, none⟩ : Addr).add j) = some v) from hB1
  clear hbw hA1 hB1 hb1 HA2 HB3
  go_wp2_with (first
    | refine wpList_load_cells rfl 24 (.tmp 10) rfl ⟨w.heap.size, 0, none⟩ rfl A _ HAw.out Yba.underlying24 rfl (by rw [HK.out.sizeA]; exact Yba.size24) ?_)
  refine (H5.out _).mono ?_
  rintro e w2 ⟨rfl, hb2⟩
  obtain ⟨hbw2, hA2, hB2, t0', t2', t3', hlast⟩ := behind2 HB1.out HAw.out HBw.out t0 t2 t3 hb2 HK.out.first HK.out.last
  have HB2 := show Hid (Below w.heap.size w w2) from hbw2
  have HA3 := show Hid (∀ (j : Nat) (v : Value), A[j]? = some v → w2.cell? ((⟨w.heap.size, 0, none⟩ : Addr).add j) = some v) from hA2
  have HB3 := show Hid (∀ (j : Nat) (v : Value), A[j]? = some v → w2.cell? ((⟨w.heap.size + 1 + 1, 0, none⟩ : Addr).add j) = some v) from hB2
  clear hbw2 hA2 hB2 hb2 HB1 HAw HBw t0 t2 t3
  go_wp2_with (first
    | refine wpList_load_cells rfl 24 (.tmp 35) rfl ⟨w.heap.size + 1 + 1, 0, none⟩ rfl A _ HB3.out Yba.underlying24 rfl (by rw [HK.out.sizeA]; exact Yba.size24) ?_
    | refine wpList_load_cells rfl 24 (.tmp 10) rfl ⟨w.heap.size, 0, none⟩ rfl A _ HA3.out Yba.underlying24 rfl (by rw [HK.out.sizeA]; exact Yba.size24) ?_)
  go_ret
  exact ⟨rfl, HB2.out⟩
end Go.Proofs.Ybulkdxwk
