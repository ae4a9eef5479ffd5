/-
  Record.copyTo, Record.clone, copier.clone, for the law S6230A.
-/
import Derived.Test.YbulkdxzqSmall
import Derived.Deep.RegionLaw
namespace Go.Proofs.Ybulkdxzq
open Go.RowKit

/-- Only block g (and rb) may differ; nothing is laid. -/
structure Only (g rb : Nat) (w w' : World) : Prop where
  os : w'.os = w.os
  tape : w'.tape = w.tape
  output : w'.output = w.output
  size : w.heap.size ≤ w'.heap.size
  block : ∀ k, k < w.heap.size → k ≠ g → k ≠ rb → w'.heap[k]? = w.heap[k]?

theorem Only.refl (g rb : Nat) (w : World) : Only g rb w w := ⟨rfl, rfl, rfl, Nat.le_refl _, fun _ _ _ _ => rfl⟩
theorem Only.trans {g rb : Nat} {a b c : World} (h : Only g rb a b) (k : Only g rb b c) : Only g rb a c :=
  ⟨k.os.trans h.os, k.tape.trans h.tape, k.output.trans h.output, Nat.le_trans h.size k.size, fun i h1 h2 h3 => (k.block i (Nat.lt_of_lt_of_le h1 h.size) h2 h3).trans (h.block i h1 h2 h3)⟩
theorem Only.setRow {g rb : Nat} {a w : World} (h : Only g rb a w) (c : Array Value) : Only g rb a (w.setRow g c) :=
  h.trans ⟨rfl, rfl, rfl, by simp, fun k _ hk _ => setRow_other w g k c hk⟩
theorem Only.setCell {g rb : Nat} {a w : World} (h : Only g rb a w) (i : Nat) (v : Value) : Only g rb a (w.setCell ⟨rb, i, none⟩ v) :=
  h.trans ⟨rfl, rfl, rfl, by simp [World.setCell], fun k _ _ hk => Go.Deep.blk_setCell_other _ _ _ _ hk⟩
theorem Only.weaken {g rb : Nat} {a w : World} (h : Only g g a w) : Only g rb a w := ⟨h.os, h.tape, h.output, h.size, fun k h1 h2 _ => h.block k h1 h2 h2⟩
theorem Only.drew {g rb : Nat} {a w : World} (h : Only g rb a w) : Only g rb a w.drew := ⟨h.os, h.tape, h.output, h.size, h.block⟩
theorem Only.cell {g rb : Nat} {w w' : World} (h : Only g rb w w') {p : Addr} (h0 : p.block < w.heap.size) (h1 : p.block ≠ g) (h2 : p.block ≠ rb) : w'.cell? p = w.cell? p := World.cell?_of_block (w := w) (h.block _ h0 h1 h2)

/-- A row of bytes that is known whole. -/
def Whole (w : World) (g : Nat) (l : List Int) : Prop := w.heap[g]? = some (.cells (l.map (Value.int .u8)).toArray 5 (0, 0))

theorem Whole.of_row {w : World} {g n : Nat} {l : List Int} (hl : l.length = n) (h : w.rowIs g 5 n (fun i => .int .u8 (l.getD i 0))) : Whole w g l := by
  obtain ⟨c, hc, hs, hf⟩ := h
  rw [Whole, hc]
  congr 2
  apply Array.ext_getElem?
  intro i
  by_cases hi : i < n
  · rw [hf i hi]
    have : i < l.length := by omega
    simp [this]
  · rw [Array.getElem?_eq_none (by omega), Array.getElem?_eq_none (by simp; omega)]

theorem Whole.row {w : World} {g : Nat} {l : List Int} (h : Whole w g l) : w.rowIs g 5 l.length (fun i => .int .u8 (l.getD i 0)) :=
  ⟨_, h, by simp, fun i hi => by simp [hi]⟩

theorem map_splice (l ls : List Int) (off : Nat) : splice (l.map (Value.int .u8)) off (ls.map (Value.int .u8)) = (splice l off ls).map (Value.int .u8) := by
  simp [splice]

/-- What one 'copy' does. -/
theorem copy_step (w : World) (g off : Nat) (l : List Int) (hg : Whole w g l) (dp sp : Option Addr) (dLen dCap sLen sCap : Nat) (ls : List Int) (hs : RowAt w sp sLen ls) (hle : sLen ≤ dLen) (hfit : off + sLen ≤ l.length)
    (hpos : 0 < sLen → dp = some ⟨g, off, none⟩) (ty : TypeId) :
    (Builtin.copy_ #[22, 22] ty #[.slice dp dLen dCap, .slice sp sLen sCap]).run Yba.prog w = .ok (goInt sLen) (w.setRow g ((splice l off ls).map (Value.int .u8)).toArray) := by
  obtain ⟨h1, h2, h3⟩ := hs
  rcases Nat.eq_zero_or_pos sLen with h0 | hp
  · subst h0
    obtain rfl := List.length_eq_zero_iff.1 h1
    rw [run_copy_none w 22 22 ty 5 dp sp dLen dCap 0 sCap Yba.underlying22 Yba.size5 (by simp)]
    rw [show splice l off [] = l by simp [splice], setRow_self w g _ 5 (0, 0) hg]
    rfl
  · obtain rfl := hpos hp
    obtain ⟨b, o, rfl, _, hc⟩ := h3 hp
    have := run_copy_row (P := Yba.prog) w 22 22 ty 5 g off dLen dCap ⟨b, o, none⟩ sLen sCap _ 5 (ls.map (Value.int .u8)) Yba.underlying22 Yba.size5 hg (by simp [h1, Nat.min_eq_left hle])
      (fun j v hj => by
        have hjl : j < ls.length := by
          have := (List.getElem?_eq_some_iff.1 hj).1
          simpa using this
        have hjv : v = .int .u8 (ls.getD j 0) := by
          simp [hjl] at hj
          simp [List.getD, hjl, hj]
        rw [WideShapes.add_plain, hjv]
        exact hc j (by omega)) (by simpa [h1] using hfit) (fun v hv => by obtain ⟨x, _, rfl⟩ := List.mem_map.1 hv; rfl)
    rw [this, ← map_splice]
    simp [h1, splice]

/-- The same as a step of a region that draws its order. -/
theorem step_copy {ops : Array Oper} {o : Oper} {a : Act} {w : World} {K : Act → World → Prop} {Q : Exit → Act → World → Prop} {E : Prop} (hgd : o.guard = none) (d s : Operand)
    (ho : o.op = .call { callee := .builtin .copy, args := #[d, s], argTypes := #[22, 22] })
    (dp sp : Option Addr) (dLen dCap sLen sCap : Nat) (hd : a.eval d = .slice dp dLen dCap) (hs : a.eval s = .slice sp sLen sCap)
    (g off : Nat) (l ls : List Int) (hg : Whole w g l) (hr : RowAt w sp sLen ls) (hle : sLen ≤ dLen) (hfit : off + sLen ≤ l.length) (hpos : 0 < sLen → dp = some ⟨g, off, none⟩) (rb : Nat)
    (h : ∀ w', Hid (Whole w' g (splice l off ls)) → Only g rb w w' → K (a.put o.dst (goInt sLen)) w') :
    if Region.wanted o (yielded ops a.tmps) = true then Oper.wp Yba.prog o a w K Q else E := by
  have hw : Region.wanted o (yielded ops a.tmps) = true := by simp [Region.wanted, hgd]
  rw [if_pos hw]
  have hrun := copy_step w g off l hg dp sp dLen dCap sLen sCap ls hr hle hfit hpos o.type
  unfold Oper.wp
  simp [execOp, ho, resolve, invoke, builtin, hd, hs, hrun, Result.andThen]
  exact h _ (show Hid _ from setRow_heap w g _ _ 5 _ hg) ((Only.refl g rb w).setRow _)

/-- The six cells of a Record. -/
def recF (o t0 t1 t2 k d : Value) : Nat → Value := fun i => [o, t0, t1, t2, k, d].getD i (.bool false)

/-- What copyTo leaves in a field. -/
def Cut (a : Option Addr) (n c g off : Nat) (v : Value) : Prop := (a = none ∧ v = .slice none n c) ∨ (a ≠ none ∧ ∃ x, v = .slice (some x) n n ∧ (0 < n → x = ⟨g, off, none⟩))

theorem RowAt.only {g rb : Nat} {w w' : World} {a : Option Addr} {n : Nat} {l : List Int} (h : RowAt w a n l) (hO : Only g rb w w') (hne : 0 < n → ∀ x, a = some x → x.block ≠ g ∧ x.block ≠ rb) : RowAt w' a n l := by
  refine ⟨h.1, h.2.1, fun hp => ?_⟩
  obtain ⟨b, off, rfl, hb, hc⟩ := h.2.2 hp
  exact ⟨b, off, rfl, Nat.lt_of_lt_of_le hb hO.size, fun i hi => (hO.cell (p := ⟨b, off + i, none⟩) hb (hne hp _ rfl).1 (hne hp _ rfl).2).trans (hc i hi)⟩

theorem recF_cell5 {w : World} {rb : Nat} {o t0 t1 t2 k d : Value} (h : w.rowIs rb 34 6 (recF o t0 t1 t2 k d)) : w.cell? ⟨rb, 5, none⟩ = some d := h.cell (i := 5) (by omega)

theorem after_copy {rb g : Nat} {o t0 t1 t2 k d : Value} {l ls : List Int} {off : Nat} {w w1 w4 : World} (hgr : g ≠ rb) (hg4 : Hid (Whole w4 g (splice l off ls))) (ho4 : Only g g w1.drew w4)
    (hR : w1.rowIs rb 34 6 (recF o t0 t1 t2 k d)) (hO : Only g rb w w1) :
    Hid (w4.rowIs rb 34 6 (recF o t0 t1 t2 k d) ∧ Whole w4 g (splice l off ls) ∧ Only g rb w w4 ∧ w4.frozen? ⟨rb, 5, none⟩ = false ∧ w4.cell? ⟨rb, 5, none⟩ = some d) := by
  have h4 : w4.rowIs rb 34 6 (recF o t0 t1 t2 k d) := hR.of_block (ho4.block rb hR.lt (Ne.symm hgr) (Ne.symm hgr))
  have ho5 : Only g g w1 w4 := ⟨ho4.os, ho4.tape, ho4.output, ho4.size, ho4.block⟩
  exact ⟨h4, hg4.out, hO.trans ho5.weaken, h4.frozen 5, recF_cell5 h4⟩

theorem recF_set4 {w : World} {rb : Nat} {o t0 t1 t2 k d : Value} (h : w.rowIs rb 34 6 (recF o t0 t1 t2 k d)) (v : Value) : (w.setCell ⟨rb, 4, none⟩ v).rowIs rb 34 6 (recF o t0 t1 t2 v d) := by
  refine (h.set 4 v).congr fun i hi => ?_
  obtain rfl | rfl | rfl | rfl | rfl | rfl : i = 0 ∨ i = 1 ∨ i = 2 ∨ i = 3 ∨ i = 4 ∨ i = 5 := by omega
  all_goals rfl

theorem recF_set5 {w : World} {rb : Nat} {o t0 t1 t2 k d : Value} (h : w.rowIs rb 34 6 (recF o t0 t1 t2 k d)) (v : Value) : (w.setCell ⟨rb, 5, none⟩ v).rowIs rb 34 6 (recF o t0 t1 t2 k v) := by
  refine (h.set 5 v).congr fun i hi => ?_
  obtain rfl | rfl | rfl | rfl | rfl | rfl : i = 0 ∨ i = 1 ∨ i = 2 ∨ i = 3 ∨ i = 4 ∨ i = 5 := by omega
  all_goals rfl

theorem fin_copy {rb g : Nat} {o t0 t1 t2 k d : Value} {l : List Int} {w w4 : World} {ka : Option Addr} {nk kc nd dc : Nat} {y : Addr} (hgr : g ≠ rb)
    (HA4 : Hid (w4.rowIs rb 34 6 (recF o t0 t1 t2 k d) ∧ Whole w4 g l ∧ Only g rb w w4 ∧ w4.frozen? ⟨rb, 5, none⟩ = false ∧ w4.cell? ⟨rb, 5, none⟩ = some d)) (hk : Cut ka nk kc g 0 k) (x : Addr) (hx : 0 < nd → x = ⟨g, nk, none⟩) :
    Whole (w4.setCell ⟨rb, 5, none⟩ (.slice (some x) nd nd)) g l ∧ Only g rb w (w4.setCell ⟨rb, 5, none⟩ (.slice (some x) nd nd)) ∧
      ∃ k, Cut ka nk kc g 0 k ∧ ∃ d, Cut (some y) nd dc g nk d ∧ (w4.setCell ⟨rb, 5, none⟩ (.slice (some x) nd nd)).rowIs rb 34 6 (recF o t0 t1 t2 k d) := by
  obtain ⟨h1, h2, h3, _, _⟩ := HA4.out
  exact ⟨(Go.Deep.blk_setCell_other _ _ _ _ hgr).trans h2, h3.setCell _ _, _, hk, _, .inr ⟨by simp, _, rfl, hx⟩, recF_set5 h1 _⟩

set_option maxRecDepth 100000 in
set_option maxHeartbeats 1000000 in
theorem copyTo_any (rb g : Nat) (o t0 t1 t2 : Value) (ka da : Option Addr) (nk kc nd dc : Nat) (lk ld l : List Int) (L : Nat) (w : World)
    (hR : w.rowIs rb 34 6 (recF o t0 t1 t2 (.slice ka nk kc) (.slice da nd dc))) (hG : Whole w g l) (hl : l.length = L) (hgr : g ≠ rb)
    (hk : RowAt w ka nk lk) (hd : RowAt w da nd ld) (hkn : 0 < nk → ∀ x, ka = some x → x.block ≠ g ∧ x.block ≠ rb) (hdn : 0 < nd → ∀ x, da = some x → x.block ≠ g ∧ x.block ≠ rb) (hle : nk + nd ≤ L) (hsm : L ≤ 4194304) :
    Calls Yba.prog 22 #[.pointer (some ⟨rb, 0, none⟩), .slice (some ⟨g, 0, none⟩) L L] w fun e w' =>
      e = .returned (.tuple #[]) ∧ Whole w' g (splice (splice l 0 lk) nk ld) ∧ Only g rb w w' ∧ ∃ k, Cut ka nk kc g 0 k ∧ ∃ d, Cut da nd dc g nk d ∧ w'.rowIs rb 34 6 (recF o t0 t1 t2 k d) := by
  have hcp := copy_step w g 0 l hG (some ⟨g, 0, none⟩) ka L L nk kc lk hk (by omega) (by omega) (fun _ => rfl)
  have hO1 : Only g rb w (w.setRow g ((splice l 0 lk).map (Value.int .u8)).toArray) := (Only.refl g rb w).setRow _
  have hW1 : Whole (w.setRow g ((splice l 0 lk).map (Value.int .u8)).toArray) g (splice l 0 lk) := setRow_heap w g _ _ 5 _ hG
  have hl1 : (splice l 0 lk).length = L := by rw [length_splice _ _ _ (by have := hk.1; omega), hl]
  have hR1 : (w.setRow g ((splice l 0 lk).map (Value.int .u8)).toArray).rowIs rb 34 6 (recF o t0 t1 t2 (.slice ka nk kc) (.slice da nd dc)) := hR.of_block (setRow_other w g rb _ (Ne.symm hgr))
  have hd1 := hd.only hO1 hdn
  generalize w.setRow g ((splice l 0 lk).map (Value.int .u8)).toArray = w1 at *
  have r4 := hR.cell (i := 4) (by omega)
  have r41 := hR1.cell (i := 4) (by omega)
  have r51 := hR1.cell (i := 5) (by omega)
  have f41 := hR1.frozen 4
  have f51 := hR1.frozen 5
  simp only [recF] at r4 r41 r51
  have hnk := fun w => run_neq_slice_nil_any (P := Yba.prog) w 22 5 ka nk kc 0 0 Yba.underlying22
  have hnd := fun w => run_neq_slice_nil_any (P := Yba.prog) w 22 5 da nd dc 0 0 Yba.underlying22
  have HA := show Hid (w1.rowIs rb 34 6 (recF o t0 t1 t2 (.slice ka nk kc) (.slice da nd dc)) ∧ Whole w1 g (splice l 0 lk) ∧ RowAt w1 da nd ld ∧ Only g rb w w1 ∧ (splice l 0 lk).length = L) from ⟨hR1, hW1, hd1, hO1, hl1⟩
  clear hR1 hW1 hd1 hO1 hl1 hR hG hk hd
  cases ka with
  | none =>
    cases da with
    | none =>
      go_enter Yba.func22, Yba.ntmps22
      go_wp2
      go_end0
      obtain ⟨h1, h2, h3, h4, h5⟩ := HA.out
      obtain rfl := List.length_eq_zero_iff.1 (h3.1.trans (h3.2.1 rfl))
      exact ⟨rfl, by rw [show splice (splice l 0 lk) nk [] = splice l 0 lk by simp [splice]]; exact h2, h4, _, .inl ⟨rfl, rfl⟩, _, .inl ⟨rfl, rfl⟩, h1⟩
    | some y =>
      by_cases hlt : nk < L
      · have hle1 : nk ≤ L := by omega
        have hne1 : ¬ L = nk := by omega
        go_enter Yba.func22, Yba.ntmps22
        go_wp2
        go_region_law (refine step_copy rfl (.tmp 32) (.tmp 36) rfl _ _ (L - nk) (L - nk) nd dc (by simp [Act.eval]) (by simp [Act.eval]) g nk (splice l 0 lk) ld HA.out.2.1 HA.out.2.2.1 (by omega) (by have := HA.out.2.2.2.2; omega) (fun _ => rfl) g ?_; intro w4 hg4 ho4; have HA4 := after_copy hgr hg4 ho4 HA.out.1 HA.out.2.2.2.1; clear hg4 ho4; have f5 := HA4.out.2.2.2.1; have c5 := HA4.out.2.2.2.2)
        go_wp2
        all_goals go_end0
        all_goals refine ⟨rfl, fin_copy hgr HA4 ?_ _ ?_⟩
        all_goals first | exact .inl ⟨rfl, rfl⟩ | (intro h; first | rfl | (exfalso; omega))
      · obtain rfl : L = nk := by omega
        obtain rfl : nd = 0 := by omega
        go_enter Yba.func22, Yba.ntmps22
        go_wp2
        go_region_law (refine step_copy rfl (.tmp 32) (.tmp 36) rfl (some ⟨g, 0, none⟩) (some y) 0 0 0 dc (by simp [Act.eval]) (by simp [Act.eval]) g L (splice l 0 lk) ld HA.out.2.1 HA.out.2.2.1 (by omega) (by have := HA.out.2.2.2.2; omega) (fun h => absurd h (Nat.lt_irrefl _)) g ?_; intro w4 hg4 ho4; have HA4 := after_copy hgr hg4 ho4 HA.out.1 HA.out.2.2.2.1; clear hg4 ho4; have f5 := HA4.out.2.2.2.1; have c5 := HA4.out.2.2.2.2)
        go_wp2
        all_goals go_end0
        all_goals refine ⟨rfl, fin_copy hgr HA4 ?_ _ ?_⟩
        all_goals first | exact .inl ⟨rfl, rfl⟩ | (intro h; first | rfl | (exfalso; omega))
  | some x =>
    cases da with
    | none =>
      go_enter Yba.func22, Yba.ntmps22
      go_wp2
      go_end0
      obtain ⟨h1, h2, h3, h4, h5⟩ := HA.out
      obtain rfl := List.length_eq_zero_iff.1 (h3.1.trans (h3.2.1 rfl))
      refine ⟨rfl, ?_, h4.setCell _ _, _, .inr ⟨by simp, _, rfl, fun _ => rfl⟩, _, .inl ⟨rfl, rfl⟩, recF_set4 h1 _⟩
      rw [show splice (splice l 0 lk) nk [] = splice l 0 lk by simp [splice]]
      exact (Go.Deep.blk_setCell_other _ _ _ _ hgr).trans h2
    | some y =>
      have HB := show Hid ((w1.setCell ⟨rb, 4, none⟩ (.slice (some ⟨g, 0, none⟩) nk nk)).rowIs rb 34 6 (recF o t0 t1 t2 (.slice (some ⟨g, 0, none⟩) nk nk) (.slice (some y) nd dc)) ∧ Whole (w1.setCell ⟨rb, 4, none⟩ (.slice (some ⟨g, 0, none⟩) nk nk)) g (splice l 0 lk) ∧
        RowAt (w1.setCell ⟨rb, 4, none⟩ (.slice (some ⟨g, 0, none⟩) nk nk)) (some y) nd ld ∧ Only g rb w (w1.setCell ⟨rb, 4, none⟩ (.slice (some ⟨g, 0, none⟩) nk nk)) ∧ (splice l 0 lk).length = L) from
        ⟨recF_set4 HA.out.1 _, (Go.Deep.blk_setCell_other _ _ _ _ hgr).trans HA.out.2.1, HA.out.2.2.1.only ((Only.refl g rb w1).setCell _ _) hdn, HA.out.2.2.2.1.setCell _ _, HA.out.2.2.2.2⟩
      by_cases hlt : nk < L
      · have hle1 : nk ≤ L := by omega
        have hne1 : ¬ L = nk := by omega
        go_enter Yba.func22, Yba.ntmps22
        go_wp2
        go_region_law (refine step_copy rfl (.tmp 32) (.tmp 36) rfl _ _ (L - nk) (L - nk) nd dc (by simp [Act.eval]) (by simp [Act.eval]) g nk (splice l 0 lk) ld HB.out.2.1 HB.out.2.2.1 (by omega) (by have := HB.out.2.2.2.2; omega) (fun _ => rfl) g ?_; intro w4 hg4 ho4; have HA4 := after_copy hgr hg4 ho4 HB.out.1 HB.out.2.2.2.1; clear hg4 ho4; have f5 := HA4.out.2.2.2.1; have c5 := HA4.out.2.2.2.2)
        go_wp2
        all_goals go_end0
        all_goals refine ⟨rfl, fin_copy hgr HA4 ?_ _ ?_⟩
        all_goals first | exact .inr ⟨Option.some_ne_none _, _, rfl, fun _ => rfl⟩ | (intro h; first | rfl | (exfalso; omega))
      · obtain rfl : L = nk := by omega
        obtain rfl : nd = 0 := by omega
        go_enter Yba.func22, Yba.ntmps22
        go_wp2
        go_region_law (refine step_copy rfl (.tmp 32) (.tmp 36) rfl (some ⟨g, 0, none⟩) (some y) 0 0 0 dc (by simp [Act.eval]) (by simp [Act.eval]) g L (splice l 0 lk) ld HB.out.2.1 HB.out.2.2.1 (by omega) (by have := HB.out.2.2.2.2; omega) (fun h => absurd h (Nat.lt_irrefl _)) g ?_; intro w4 hg4 ho4; have HA4 := after_copy hgr hg4 ho4 HB.out.1 HB.out.2.2.2.1; clear hg4 ho4; have f5 := HA4.out.2.2.2.1; have c5 := HA4.out.2.2.2.2)
        go_wp2
        all_goals go_end0
        all_goals refine ⟨rfl, fin_copy hgr HA4 ?_ _ ?_⟩
        all_goals first | exact .inr ⟨Option.some_ne_none _, _, rfl, fun _ => rfl⟩ | (intro h; first | rfl | (exfalso; omega))
end Go.Proofs.Ybulkdxzq
