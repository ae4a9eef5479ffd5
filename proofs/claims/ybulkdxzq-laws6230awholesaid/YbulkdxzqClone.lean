/-
  Record.clone and copier.clone, for the law S6230A.
-/
import Derived.Test.YbulkdxzqCopy
namespace Go.Proofs.Ybulkdxzq
open Go.RowKit

theorem Yba.size34 : (Yba.prog.info? 34).map (·.size) = some 6 := by kernel_rfl

/-- A whole array or struct read out of cells that are known. -/
theorem wpList_load_cells {P : Program} {ops : Array Oper} {rest : List Oper} {o : Oper} {a : Act} {w : World} {Q : Exit → Act → World → Prop} (hgd : o.guard = none) (ty : TypeId) (x : Operand) (ho : o.op = .load ty x)
    (a0 : Addr) (hx : a.eval x = .pointer (some a0)) (cs : Array Value) (d : TypeDesc) (hcell : ∀ (j : Nat) (v : Value), cs[j]? = some v → w.cell? (a0.add j) = some v)
    (hu : P.underlying ty = some d) (hd : (match d with | .struct _ | .array _ _ => true | _ => false) = true) (hi : (P.info? ty).map (·.size) = some cs.size)
    (h : wpList P ops Q rest (a.put o.dst (.agg cs)) w) : wpList P ops Q (o :: rest) a w := by
  refine wpList_plain hgd fun K hK => ?_
  have hl : (loadCells a0 cs.toList.length).run P w = .ok cs.toList.toArray w :=
    run_loadCells_list (P := P) w a0 cs.toList (fun j v hv => hcell j v (by simpa using hv))
  have hrun : (loadVar ty a0).run P w = .ok (.agg cs) w := by
    cases hq : P.info? ty with
    | none => simp [hq] at hi
    | some i =>
      have hs : i.size = cs.size := by simpa [hq] using hi
      have hagg : (isAgg ty).run P w = .ok true w := by
        unfold isAgg
        rw [Sem.run_bind, run_underlying hu w]
        cases d <;> simp_all
      simp only [Array.length_toList, Array.toArray_toList] at hl
      simp [loadVar, Sem.run_bind, hagg, sizeOf, typeInfo, hq, hs, hl]
  unfold Oper.wp execOp
  simp only [ho, hx, Instr.loadAt, Instr.sureAddr, Sem.run_bind, Sem.run_pure, Result.andThen_ok, hrun]
  exact hK _ _ h

/-- Only the blocks of the list may differ, and what is laid anew. -/
structure OnlyIn (S : List Nat) (w w' : World) : Prop where
  os : w'.os = w.os
  tape : w'.tape = w.tape
  output : w'.output = w.output
  size : w.heap.size ≤ w'.heap.size
  block : ∀ k, k < w.heap.size → k ∉ S → w'.heap[k]? = w.heap[k]?

theorem OnlyIn.refl (S : List Nat) (w : World) : OnlyIn S w w := ⟨rfl, rfl, rfl, Nat.le_refl _, fun _ _ _ => rfl⟩
theorem OnlyIn.trans {S : List Nat} {a b c : World} (h : OnlyIn S a b) (k : OnlyIn S b c) : OnlyIn S a c :=
  ⟨k.os.trans h.os, k.tape.trans h.tape, k.output.trans h.output, Nat.le_trans h.size k.size, fun i h1 h2 => (k.block i (Nat.lt_of_lt_of_le h1 h.size) h2).trans (h.block i h1 h2)⟩
theorem OnlyIn.of_only {S : List Nat} {g rb : Nat} {w w' : World} (h : Only g rb w w') (h1 : g ∈ S) (h2 : rb ∈ S) : OnlyIn S w w' :=
  ⟨h.os, h.tape, h.output, h.size, fun k hk hn => h.block k hk (fun e => hn (e ▸ h1)) (fun e => hn (e ▸ h2))⟩
theorem OnlyIn.setCell {S : List Nat} {a w : World} (h : OnlyIn S a w) {b : Nat} (hb : b ∈ S) (i : Nat) (v : Value) : OnlyIn S a (w.setCell ⟨b, i, none⟩ v) :=
  h.trans ⟨rfl, rfl, rfl, by simp [World.setCell], fun k _ hk => Go.Deep.blk_setCell_other _ _ _ _ (fun e => hk (e ▸ hb))⟩
theorem OnlyIn.alloc {S : List Nat} {a w : World} (h : OnlyIn S a w) (o : Obj) : OnlyIn S a (w.alloc o) :=
  h.trans ⟨rfl, rfl, rfl, by simp, fun k hk _ => Go.Deep.blk_alloc_lt _ _ _ hk⟩
theorem OnlyIn.drew {S : List Nat} {a w : World} (h : OnlyIn S a w) : OnlyIn S a w.drew := ⟨h.os, h.tape, h.output, h.size, h.block⟩
theorem OnlyIn.cell {S : List Nat} {w w' : World} (h : OnlyIn S w w') {p : Addr} (h0 : p.block < w.heap.size) (h1 : p.block ∉ S) : w'.cell? p = w.cell? p := World.cell?_of_block (w := w) (h.block _ h0 h1)
theorem OnlyIn.below {S : List Nat} {w w' : World} {B : Nat} (h : OnlyIn S w w') (hB : B ≤ w.heap.size) (hS : ∀ k ∈ S, B ≤ k) : Below B w w' :=
  ⟨h.os, h.tape, h.output, h.size, fun k hk => h.block k (by omega) (fun hm => by have := hS k hm; omega)⟩

theorem RowAt.onlyIn {S : List Nat} {w w' : World} {a : Option Addr} {n : Nat} {l : List Int} (h : RowAt w a n l) (hO : OnlyIn S w w') (hne : 0 < n → ∀ x, a = some x → x.block ∉ S) : RowAt w' a n l := by
  refine ⟨h.1, h.2.1, fun hp => ?_⟩
  obtain ⟨b, off, rfl, hb, hc⟩ := h.2.2 hp
  exact ⟨b, off, rfl, Nat.lt_of_lt_of_le hb hO.size, fun i hi => (hO.cell (p := ⟨b, off + i, none⟩) hb (hne hp ⟨b, off, none⟩ rfl)).trans (hc i hi)⟩

/-- What a clone leaves in a field, nil slices being of length and capacity 0. -/
def Cut' (a : Option Addr) (n g off : Nat) (v : Value) : Prop := ∃ a', v = .slice a' n n ∧ a'.isNone = a.isNone ∧ (0 < n → a' = some ⟨g, off, none⟩)

theorem Cut.to' {a : Option Addr} {n c g off : Nat} {v : Value} (h : Cut a n c g off v) (h0 : a = none → n = 0 ∧ c = 0) : Cut' a n g off v := by
  rcases h with ⟨rfl, rfl⟩ | ⟨hn, x, rfl, hx⟩
  · obtain ⟨rfl, rfl⟩ := h0 rfl
    exact ⟨none, rfl, rfl, fun h => absurd h (Nat.lt_irrefl _)⟩
  · cases a with
    | none => exact absurd rfl hn
    | some y => exact ⟨some x, rfl, rfl, fun h => by rw [hx h]⟩

theorem recF_cells {w : World} {rb : Nat} {o t0 t1 t2 k d : Value} (h : w.rowIs rb 34 6 (recF o t0 t1 t2 k d)) (j : Nat) (v : Value) (hv : (#[o, t0, t1, t2, k, d] : Array Value)[j]? = some v) : w.cell? ((⟨rb, 0, none⟩ : Addr).add j) = some v := by
  have hj : j < 6 := (Array.getElem?_eq_some_iff.1 hv).1
  rw [WideShapes.add_plain, Nat.zero_add, h.cell hj]
  obtain rfl | rfl | rfl | rfl | rfl | rfl : j = 0 ∨ j = 1 ∨ j = 2 ∨ j = 3 ∨ j = 4 ∨ j = 5 := by omega
  all_goals (simp at hv; subst hv; rfl)

theorem recF_alloc (w : World) (o t0 t1 t2 k d : Value) : (w.alloc (.cells #[o, t0, t1, t2, k, d] 34)).rowIs w.heap.size 34 6 (recF o t0 t1 t2 k d) :=
  World.rowIs_alloc w #[o, t0, t1, t2, k, d] 34 _ (fun i hi => by
    simp at hi
    obtain rfl | rfl | rfl | rfl | rfl | rfl : i = 0 ∨ i = 1 ∨ i = 2 ∨ i = 3 ∨ i = 4 ∨ i = 5 := by omega
    all_goals rfl)

theorem hid {p : Prop} (h : p) : Hid p := h

theorem Cut.one {a : Option Addr} {n c g off : Nat} {v : Value} (h : Cut a n c g off v) : v.oneCell' = true := by
  rcases h with ⟨_, rfl⟩ | ⟨_, x, rfl, _⟩ <;> rfl

theorem made_whole (w : World) (n : Nat) : Whole (w.alloc (.cells (madeCells #[.int .u8 0] n) 5)) w.heap.size (List.replicate n 0) := by
  rw [Whole, Go.Deep.blk_alloc_new]
  congr 2
  apply Array.ext'
  rw [made_list]
  simp

/-- The world as copyTo finds it under Record.clone. -/
abbrev CloneW (off x y : Int) (ka da : Option Addr) (nk kc nd dc : Nat) (w : World) : World :=
  (((w.alloc (.cells #[.int .i64 off, .int .u64 x, .int .i64 y, .pointer none, .slice ka nk kc, .slice da nd dc] 34)).alloc
    (.cells #[.int .i64 0, .int .u64 0, .int .i64 0, .pointer none, .slice none 0 0, .slice none 0 0] 34)).alloc (.cells (madeCells #[.int .u8 0] (nk + nd)) 5))

theorem clone_below (off x y : Int) (ka da : Option Addr) (nk kc nd dc : Nat) (w : World) : Below w.heap.size w (CloneW off x y ka da nk kc nd dc w) :=
  (((Below.refl _ _).alloc (Nat.le_refl _) _).alloc (by simp) _).alloc (by simp; omega) _

theorem RowAt.below {w w' : World} {a : Option Addr} {n : Nat} {l : List Int} {B : Nat} (h : RowAt w a n l) (hO : Below B w w') (hne : 0 < n → ∀ x, a = some x → x.block < B) : RowAt w' a n l := by
  refine ⟨h.1, h.2.1, fun hp => ?_⟩
  obtain ⟨b, off, rfl, hb, hc⟩ := h.2.2 hp
  exact ⟨b, off, rfl, Nat.lt_of_lt_of_le hb hO.size, fun i hi => (hO.cell (p := ⟨b, off + i, none⟩) (hne hp ⟨b, off, none⟩ rfl)).trans (hc i hi)⟩

theorem clone_pre {off x y : Int} {ka da : Option Addr} {nk kc nd dc : Nat} {lk ld : List Int} {w : World}
    (HF : Hid (RowAt w ka nk lk ∧ RowAt w da nd ld ∧ (0 < nk → ∀ x, ka = some x → x.block < w.heap.size) ∧ (0 < nd → ∀ x, da = some x → x.block < w.heap.size))) :
    (CloneW off x y ka da nk kc nd dc w).rowIs w.heap.size 34 6 (recF (.int .i64 off) (.int .u64 x) (.int .i64 y) (.pointer none) (.slice ka nk kc) (.slice da nd dc)) ∧ Whole (CloneW off x y ka da nk kc nd dc w) (w.heap.size + 2) (List.replicate (nk + nd) 0) ∧
      RowAt (CloneW off x y ka da nk kc nd dc w) ka nk lk ∧ RowAt (CloneW off x y ka da nk kc nd dc w) da nd ld ∧ (0 < nk → ∀ x, ka = some x → x.block ≠ w.heap.size + 2 ∧ x.block ≠ w.heap.size) ∧ (0 < nd → ∀ x, da = some x → x.block ≠ w.heap.size + 2 ∧ x.block ≠ w.heap.size) ∧
      (CloneW off x y ka da nk kc nd dc w).heap[w.heap.size + 1]? = some (.cells #[.int .i64 0, .int .u64 0, .int .i64 0, .pointer none, .slice none 0 0, .slice none 0 0] 34 (0, 0)) := by
  obtain ⟨h1, h2, h3, h4⟩ := HF.out
  refine ⟨((recF_alloc w _ _ _ _ _ _).alloc _).alloc _, ?_, h1.below (clone_below ..) h3, h2.below (clone_below ..) h4, fun hp x hx => ?_, fun hp x hx => ?_, ?_⟩
  · have := made_whole ((w.alloc (.cells #[.int .i64 off, .int .u64 x, .int .i64 y, .pointer none, .slice ka nk kc, .slice da nd dc] 34)).alloc
      (.cells #[.int .i64 0, .int .u64 0, .int .i64 0, .pointer none, .slice none 0 0, .slice none 0 0] 34)) (nk + nd)
    simpa using this
  · have := h3 hp x hx; omega
  · have := h4 hp x hx; omega
  · rw [Go.Deep.blk_alloc_lt _ _ _ (by simp)]
    have := Go.Deep.blk_alloc_new (w.alloc (.cells #[.int .i64 off, .int .u64 x, .int .i64 y, .pointer none, .slice ka nk kc, .slice da nd dc] 34)) (.cells #[.int .i64 0, .int .u64 0, .int .i64 0, .pointer none, .slice none 0 0, .slice none 0 0] 34)
    simpa using this

theorem clone_post {off x y : Int} {ka da : Option Addr} {nk kc nd dc : Nat} {lk ld l : List Int} {w w' : World} {o t0 t1 t2 k d : Value}
    (HF : Hid (RowAt w ka nk lk ∧ RowAt w da nd ld ∧ (0 < nk → ∀ x, ka = some x → x.block < w.heap.size) ∧ (0 < nd → ∀ x, da = some x → x.block < w.heap.size)))
    (g1 : Whole w' (w.heap.size + 2) l) (g2 : Only (w.heap.size + 2) w.heap.size (CloneW off x y ka da nk kc nd dc w) w') (g3 : w'.rowIs w.heap.size 34 6 (recF o t0 t1 t2 k d)) :
    Hid (w'.rowIs w.heap.size 34 6 (recF o t0 t1 t2 k d) ∧ w'.heap[w.heap.size + 1]? = some (.cells #[.int .i64 0, .int .u64 0, .int .i64 0, .pointer none, .slice none 0 0, .slice none 0 0] 34 (0, 0)) ∧ Whole w' (w.heap.size + 2) l ∧ Below w.heap.size w w') := by
  have hp := (clone_pre (off := off) (x := x) (y := y) (kc := kc) (dc := dc) HF).2.2.2.2.2.2
  refine ⟨g3, (g2.block (w.heap.size + 1) (by simp) (by omega) (by omega)).trans hp, g1, (clone_below off x y ka da nk kc nd dc w).trans ⟨g2.os, g2.tape, g2.output, g2.size, fun k hk => g2.block k (by simp; omega) (by omega) (by omega)⟩⟩

theorem rec_one {off x y : Int} {k d : Value} (h1 : k.oneCell' = true) (h2 : d.oneCell' = true) : (#[.int .i64 off, .int .u64 x, .int .i64 y, .pointer none, k, d] : Array Value).all (·.oneCell') = true := by
  have a : (Value.int .i64 off).oneCell' = true := rfl
  have b : (Value.int .u64 x).oneCell' = true := rfl
  have c : (Value.int .i64 y).oneCell' = true := rfl
  have e : (Value.pointer none).oneCell' = true := rfl
  simp only [List.all_toArray, List.all_cons, List.all_nil, a, b, c, e, h1, h2, Bool.and_true]

/-- A whole struct read, as an equation. -/
theorem run_loadVar_cells {P : Program} {w : World} (ty : TypeId) (a0 : Addr) (cs : Array Value) (d : TypeDesc) (hcell : ∀ (j : Nat) (v : Value), cs[j]? = some v → w.cell? (a0.add j) = some v)
    (hu : P.underlying ty = some d) (hd : (match d with | .struct _ | .array _ _ => true | _ => false) = true) (hi : (P.info? ty).map (·.size) = some cs.size) : (loadVar ty a0).run P w = .ok (.agg cs) w := by
  have hl : (loadCells a0 cs.toList.length).run P w = .ok cs.toList.toArray w :=
    run_loadCells_list (P := P) w a0 cs.toList (fun j v hv => hcell j v (by simpa using hv))
  cases hq : P.info? ty with
  | none => simp [hq] at hi
  | some i =>
    have hs : i.size = cs.size := by simpa [hq] using hi
    have hagg : (isAgg ty).run P w = .ok true w := by
      unfold isAgg
      rw [Sem.run_bind, run_underlying hu w]
      cases d <;> simp_all
    simp only [Array.length_toList, Array.toArray_toList] at hl
    simp [loadVar, Sem.run_bind, hagg, sizeOf, typeInfo, hq, hs, hl]

theorem results_cell {P : Program} {fn : Func} {t : Tmp} {ty : TypeId} {w : World} {a0 : Addr} {v : Value} (h : fn.results = #[.cell t ty]) (tmps : Array Value) (ht : tmps.getD t undef = .pointer (some a0)) (hl : (loadVar ty a0).run P w = .ok v w) :
    (results fn tmps).run P w = .ok v w := by
  have ht' : tmps[t]?.getD undef = .pointer (some a0) := by simpa using ht
  simp [results, h, ht', asAddr, hl]

theorem load_setRow {w : World} {g : Nat} {old : Array Value} {o t0 t1 t2 k d : Value} (hg : w.heap[g]? = some (.cells old 34 (0, 0))) :
    (loadVar 34 ⟨g, 0, none⟩).run Yba.prog (w.setRow g #[o, t0, t1, t2, k, d]) = .ok (.agg #[o, t0, t1, t2, k, d]) (w.setRow g #[o, t0, t1, t2, k, d]) := by
  have hr : (w.setRow g #[o, t0, t1, t2, k, d]).rowIs g 34 6 (recF o t0 t1 t2 k d) := ⟨_, setRow_heap w g _ _ 34 _ hg, rfl, fun i hi => by
    obtain rfl | rfl | rfl | rfl | rfl | rfl : i = 0 ∨ i = 1 ∨ i = 2 ∨ i = 3 ∨ i = 4 ∨ i = 5 := by omega
    all_goals rfl⟩
  exact run_loadVar_cells 34 _ _ _ (recF_cells hr) Yba.underlying34 rfl Yba.size34

set_option maxRecDepth 20000 in
set_option maxHeartbeats 1000000 in
theorem clone_any (off : Int) (x y : Int) (ka da : Option Addr) (nk kc nd dc : Nat) (lk ld : List Int) (w : World)
    (hk : RowAt w ka nk lk) (hd : RowAt w da nd ld) (hkn : 0 < nk → ∀ x, ka = some x → x.block < w.heap.size) (hdn : 0 < nd → ∀ x, da = some x → x.block < w.heap.size) (hsm : nk + nd ≤ 1048576) :
    Calls Yba.prog 21 #[.agg #[.int .i64 off, .int .u64 x, .int .i64 y, .pointer none, .slice ka nk kc, .slice da nd dc]] w fun e w' =>
      ∃ k, Cut ka nk kc (w.heap.size + 2) 0 k ∧ ∃ d, Cut da nd dc (w.heap.size + 2) nk d ∧ e = .returned (.agg #[.int .i64 off, .int .u64 x, .int .i64 y, .pointer none, k, d]) ∧ Whole w' (w.heap.size + 2) (splice (splice (List.replicate (nk + nd) 0) 0 lk) nk ld) ∧ Below w.heap.size w w' := by
  have hmk := run_make_row' (P := Yba.prog) 22 5 (.int .u8 0) 1 Yba.underlying22 Yba.info5 rfl .i64 .i64 (nk + nd) (by omega) (by omega)
  simp only [Int.natCast_add] at hmk
  have HF := show Hid (RowAt w ka nk lk ∧ RowAt w da nd ld ∧ (0 < nk → ∀ x, ka = some x → x.block < w.heap.size) ∧ (0 < nd → ∀ x, da = some x → x.block < w.heap.size)) from ⟨hk, hd, hkn, hdn⟩
  clear hk hd hkn hdn
  have hpre := clone_pre (off := off) (x := x) (y := y) (kc := kc) (dc := dc) HF
  have hc := copyTo_any w.heap.size (w.heap.size + 2) (.int .i64 off) (.int .u64 x) (.int .i64 y) (.pointer none) ka da nk kc nd dc lk ld (List.replicate (nk + nd) 0) (nk + nd) (CloneW off x y ka da nk kc nd dc w) hpre.1 hpre.2.1 (by simp) (by omega) hpre.2.2.1 hpre.2.2.2.1 hpre.2.2.2.2.1 hpre.2.2.2.2.2.1 (by omega) (by omega)
  have HCa := hid hc
  clear hpre hc
  go_enter Yba.func21, Yba.ntmps21
  go_wp2_with (first
    | (go_at_call 22
       refine HCa.out.mono ?_
       rintro e w' ⟨rfl, g1, g2, k, ck, d, cd, g3⟩
       have HG := clone_post HF g1 g2 g3
       have h1 := ck.one
       have h2 := cd.one
       have HC := hid (And.intro ck cd)
       clear g1 g2 g3 ck cd)
    | (refine wpList_load_cells rfl 34 (.tmp 1) rfl ⟨w.heap.size, 0, none⟩ rfl #[.int .i64 off, .int .u64 x, .int .i64 y, .pointer none, k, d] _ (recF_cells HG.out.1) Yba.underlying34 rfl Yba.size34 ?_)
    | (refine wpList_store_row rfl 34 (.tmp 2) (.tmp 12) rfl (w.heap.size + 1) #[.int .i64 off, .int .u64 x, .int .i64 y, .pointer none, k, d] rfl rfl 34 _ HG.out.2.1 Yba.size34 rfl (rec_one h1 h2) ?_))
  have hld := load_setRow (o := .int .i64 off) (t0 := .int .u64 x) (t1 := .int .i64 y) (t2 := .pointer none) (k := k) (d := d) HG.out.2.1
  refine bodyPost_ret (results_cell Yba.results21 _ rfl hld) rfl ?_
  exact ⟨k, HC.out.1, d, HC.out.2, rfl, (setRow_other _ _ _ _ (by omega)).trans HG.out.2.2.1, below_setRow HG.out.2.2.2 (by omega) _⟩
end Go.Proofs.Ybulkdxzq
