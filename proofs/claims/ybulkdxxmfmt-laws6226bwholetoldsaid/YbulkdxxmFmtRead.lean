/-
  ReadAt, readFile.
-/
import Derived.Test.YbulkdxxmFmtEnv
import Derived.Test.YbulkdxxmFmtIs
import Derived.Laws.CopyRow
import Derived.Laws.IdiomCopy
import Derived.Laws.CopyOwn
import Derived.Deep.OwnRows
namespace Go.Proofs.YbulkdxxmFmt
open Go.RowKit Go.Extern.Stop Go.Stop Go.Extern

theorem Ybaf.info5 : (Ybaf.prog.info? 5).map (fun i => (i.zero, i.size, i.bytes)) = some (some (.int .u8 0), 1, 1) := by kernel_rfl
theorem Ybaf.size5 : (Ybaf.prog.info? 5).map (·.size) = some 1 := by kernel_rfl
@[go_sem] theorem Ybaf.methodReadAt (v : Value) (w : World) : (Go.method 283 30 v "ReadAt").run Ybaf.prog w = .ok (40, v) w := by kernel_rfl

theorem Kept.setRow {db k pb : Nat} {V w : World} (h : Kept db k V w) (h1 : V.heap.size ≤ pb) (h2 : pb ≠ db) (cs : Array Value) : Kept db k V (w.setRow pb cs) := by
  have hk := setRow_other w pb db cs (Ne.symm h2)
  refine ⟨h.os, h.tape, h.output, by simpa [World.setRow] using h.size, fun b hb hd => (setRow_other w pb b cs (by omega)).trans (h.block b hb hd), ?_, fun o ho => ?_, ?_⟩
  · exact (World.cell?_of_block (w := w) hk).trans h.d1
  · exact (World.cell?_of_block (w := w) hk).trans (h.dx o ho)
  · exact (World.frozen?_of_block (w := w) hk).trans h.df

theorem copy_read {w : World} {pb fb L off n : Nat} {f : List Int} (hp : w.heap[pb]? = some (.cells (madeCells #[.int .u8 0] n) 5 (0, 0)))
    (hf : ∀ i, i < L → w.cell? ⟨fb, i, none⟩ = some (.int .u8 (f.getD i 0))) (hL : off + n ≤ L) :
    ∃ cs : Array Value, (∀ ty, (Builtin.copy_ #[22, 22] ty #[.slice (some ⟨pb, 0, none⟩) n n, .slice (some ⟨fb, off, none⟩) (L - off) (L - off)]).run Ybaf.prog w = .ok (goInt n) (w.setRow pb cs)) ∧
      ∀ i, i < n → (w.setRow pb cs).cell? ⟨pb, i, none⟩ = some (.int .u8 (f.getD (off + i) 0)) := by
  have hrun := fun ty => run_copy_row (P := Ybaf.prog) w 22 22 ty 5 pb 0 n n ⟨fb, off, none⟩ (L - off) (L - off) _ 5 ((List.range n).map (fun i => Value.int .u8 (f.getD (off + i) 0))) Ybaf.underlying22 Ybaf.size5 hp
    (by simp [Nat.min_eq_right (show n ≤ L - off by omega)])
    (fun j v hj => by
      have hjl : j < n := by
        have := (List.getElem?_eq_some_iff.1 hj).1
        simpa using this
      have hjv : v = .int .u8 (f.getD (off + j) 0) := by
        simp [hjl] at hj
        rw [← hj, List.getD]
      rw [WideShapes.add_plain, hjv]
      exact hf (off + j) (by omega)) (by simp [madeCells]) (fun v hv => by obtain ⟨i, _, rfl⟩ := List.mem_map.1 hv; rfl)
  simp only [List.length_map, List.length_range] at hrun
  refine ⟨_, hrun, fun i hi => ?_⟩
  have hs := setRow_heap w pb _ ((madeCells #[.int .u8 0] n).toList.take 0 ++ (List.range n).map (fun i => Value.int .u8 (f.getD (off + i) 0)) ++ (madeCells #[.int .u8 0] n).toList.drop (0 + n)).toArray 5 _ hp
  show (match (World.setRow w pb _).heap[pb]? with | some (Obj.cells c _ _) => c[i]? | _ => none) = _
  rw [hs]
  simp only [List.take_zero, List.nil_append, List.getElem?_toArray]
  rw [List.getElem?_append_left (by simpa using hi)]
  simp [hi]

theorem ret2 {a b c d : Value} (h : a = c) (h' : b = d) : Ending.returned (.tuple #[a, b]) = .returned (.tuple #[c, d]) := by rw [h, h']

set_option maxRecDepth 100000 in
set_option maxHeartbeats 400000 in
theorem readAt_fail (x : Box) (f : List Int) (w : World) (sl : Value) (off : Int) (hx : x.Ok) (h : Env x f x.fail w) :
    Calls Ybaf.prog 40 #[.pointer (some ⟨x.db, 0, none⟩), sl, .int .i64 off] w fun e w' => e = .returned (.tuple #[.int .i64 0, .iface 67 (.pointer (some ⟨x.sb, 0, none⟩))]) ∧ Kept x.db (x.fail + 1) w w' := by
  have HK := show Hid (∀ n, Kept x.db (x.fail + 1) w ((w.setCell ⟨x.db, 1, none⟩ (.int .i64 ((x.fail : Int) + 1))).drewN n)) from fun n => by
    have k := Kept.count (k' := x.fail + 1) h.d1
    exact k.trans (Kept.of_below (below_drewN (Below.refl _ _) n) k.d1)
  have h1 := h.d1
  have h2 := h.d2
  have h3 := h.d3
  have h4 := h.df
  have := hx.fail
  clear h hx
  generalize x.fail = fl at *
  generalize x.db = db at *
  generalize x.sb = sb at *
  go_enter Ybaf.func40, Ybaf.ntmps40
  go_wp2
  go_quiet (fail)
  go_wp2
  go_ret2
  exact ⟨rfl, HK.out _⟩

set_option maxRecDepth 100000 in
set_option maxHeartbeats 400000 in
theorem readAt_ok (x : Box) (f : List Int) (c off n : Nat) (V : World) (hx : x.Ok) (h : Env x f c V) (hc : c ≠ x.fail) (hc3 : c < 3) (hoff : off + n ≤ x.L) (hn : 0 < n) :
    Calls Ybaf.prog 40 #[.pointer (some ⟨x.db, 0, none⟩), .slice (some ⟨V.heap.size, 0, none⟩) n n, .int .i64 off] (V.alloc (.cells (madeCells #[.int .u8 0] n) 5))
      fun e w' => e = .returned (.tuple #[.int .i64 n, .nilIface]) ∧ (∀ i, i < n → w'.cell? ⟨V.heap.size, i, none⟩ = some (.int .u8 (f.getD (off + i) 0))) ∧ Kept x.db (c + 1) V w' := by
  have hE := h.alloc hx (.cells (madeCells #[.int .u8 0] n) 5)
  have hb : Below V.heap.size V (V.alloc (.cells (madeCells #[.int .u8 0] n) 5)) := (Below.refl _ _).alloc (Nat.le_refl _) _
  have hp := Go.Deep.blk_alloc_new V (.cells (madeCells #[.int .u8 0] n) 5)
  have hdlt : x.db < V.heap.size := World.block_lt_of_cell? _ _ h.d1
  have hk1 := Kept.of_below hb h.d1
  generalize V.alloc (.cells (madeCells #[.int .u8 0] n) 5) = w at *
  have hk2 := hk1.trans (Kept.count (k' := c + 1) hE.d1)
  have hp2 : (w.setCell ⟨x.db, 1, none⟩ (.int .i64 ((c + 1 : Nat) : Int))).heap[V.heap.size]? = some (.cells (madeCells #[.int .u8 0] n) 5 (0, 0)) := by
    rw [Below.heap_setCell _ _ _ _ (by show V.heap.size ≠ x.db; omega)]; exact hp
  have hE2 := h.kept hx hk2
  obtain ⟨cs, hcp, hcs⟩ := copy_read (off := off) (n := n) hp2 hE2.file hoff
  have HR := show Hid ((∀ i, i < n → ((w.setCell ⟨x.db, 1, none⟩ (.int .i64 ((c + 1 : Nat) : Int))).setRow V.heap.size cs).cell? ⟨V.heap.size, i, none⟩ = some (.int .u8 (f.getD (off + i) 0))) ∧ Kept x.db (c + 1) V ((w.setCell ⟨x.db, 1, none⟩ (.int .i64 ((c + 1 : Nat) : Int))).setRow V.heap.size cs)) from
    ⟨hcs, hk2.setRow (Nat.le_refl _) (by omega) cs⟩
  have g0 := hE2.d0
  have h1 := hE.d1
  have h2 := hE2.d2
  have h4 := hE.df
  have := hx.fail
  have := hx.L2
  have hLo : ¬ x.L = off := by omega
  have hcf : ((c : Int) == (x.fail : Int)) = false := beq_eq_false_iff_ne.2 (by omega)
  clear hE hE2 hk1 hk2 hp hp2 hb hcs h hx hc
  rw [show ((c + 1 : Nat) : Int) = (c : Int) + 1 by omega] at *
  generalize V.heap.size = pb at *
  generalize x.fail = fl at *
  generalize x.db = db at *
  generalize x.fb = fb at *
  generalize x.L = L at *
  go_enter Ybaf.func40, Ybaf.ntmps40
  go_wp2
  go_ret2
  exact ⟨rfl, HR.out⟩

@[go_sem] theorem neq_nil28 (u : TypeId) (v : Value) (w : World) : (binOp .neq 28 (.iface u v) .nilIface).run Ybaf.prog w = .ok (.bool true) w := by kernel_rfl

set_option maxRecDepth 100000 in
set_option maxHeartbeats 400000 in
/-- cmp.Or of two errors, the first of which is one. -/
theorem or_first (b : Nat) (a : Addr) (w : World) (h : w.cell? ⟨b, 0, none⟩ = some (.iface 67 (.pointer (some a)))) :
    Calls Ybaf.prog 23 #[.slice (some ⟨b, 0, none⟩) 2 2] w fun e w' => e = .returned (.iface 67 (.pointer (some a))) ∧ w' = w := by
  go_enter Ybaf.func23, Ybaf.ntmps23
  go_wp2
  refine wp_loop_rounds 1 ?_
  rw [rounds_succ]
  go_wp2
  go_ret
  exact ⟨rfl, rfl⟩

set_option maxRecDepth 100000 in
set_option maxHeartbeats 400000 in
theorem readFile_ok (x : Box) (f : List Int) (c off n : Nat) (V : World) (hx : x.Ok) (hm : x.mapped = false) (h : Env x f c V) (hc : c ≠ x.fail) (hc3 : c < 3) (hoff : off + n ≤ x.L) (hn : 0 < n) :
    Calls Ybaf.prog 21 #[.pointer (some ⟨x.ib, 0, none⟩), .slice (some ⟨V.heap.size, 0, none⟩) n n, .int .u64 off] (V.alloc (.cells (madeCells #[.int .u8 0] n) 5))
      fun e w' => e = .returned .nilIface ∧ (∀ i, i < n → w'.cell? ⟨V.heap.size, i, none⟩ = some (.int .u8 (f.getD (off + i) 0))) ∧ Kept x.db (c + 1) V w' := by
  have HC := show Hid (∀ W, W = V.alloc (.cells (madeCells #[.int .u8 0] n) 5) → Calls Ybaf.prog 40 #[.pointer (some ⟨x.db, 0, none⟩), .slice (some ⟨V.heap.size, 0, none⟩) n n, .int .i64 off] W
      fun e w' => e = .returned (.tuple #[.int .i64 n, .nilIface]) ∧ (∀ i, i < n → w'.cell? ⟨V.heap.size, i, none⟩ = some (.int .u8 (f.getD (off + i) 0))) ∧ Kept x.db (c + 1) V w') from
    fun W hW => by rw [hW]; exact readAt_ok x f c off n V hx h hc hc3 hoff hn
  have h1 : (V.alloc (.cells (madeCells #[.int .u8 0] n) 5)).cell? ⟨x.ib, 5, none⟩ = some (.iface 30 (.pointer (some ⟨x.db, 0, none⟩))) := by have := (h.alloc hx (.cells (madeCells #[.int .u8 0] n) 5)).imF; rw [hm] at this; exact this
  have := hx.L2
  clear h hx hm hc hc3
  generalize V.alloc (.cells (madeCells #[.int .u8 0] n) 5) = w at *
  generalize V.heap.size = pb at *
  generalize x.db = db at *
  generalize x.ib = ib at *
  generalize x.L = L at *
  go_enter Ybaf.func21, Ybaf.ntmps21
  go_wp2_with (go_at_call 40; refine (HC.out _ ?_).mono ?_; rfl; rintro e w1 ⟨rfl, hr1, hr2⟩)
  all_goals (try go_wp2)
  go_ret
  exact ⟨rfl, hr1, hr2⟩

set_option maxRecDepth 100000 in
set_option maxHeartbeats 400000 in
theorem readFile_fail (x : Box) (f : List Int) (off n cp : Nat) (y : Option Addr) (w : World) (hx : x.Ok) (hm : x.mapped = false) (h : Env x f x.fail w) (hoff : off ≤ x.L) (hn : 0 < n) (hn2 : n ≤ x.L) :
    Calls Ybaf.prog 21 #[.pointer (some ⟨x.ib, 0, none⟩), .slice y n cp, .int .u64 off] w
      fun e w' => e = .returned (.iface 67 (.pointer (some ⟨x.sb, 0, none⟩))) ∧ Kept x.db (x.fail + 1) w w' := by
  have HC := show Hid (∀ sl (o : Int), Calls Ybaf.prog 40 #[.pointer (some ⟨x.db, 0, none⟩), sl, .int .i64 o] w
      fun e w' => e = .returned (.tuple #[.int .i64 0, .iface 67 (.pointer (some ⟨x.sb, 0, none⟩))]) ∧ Kept x.db (x.fail + 1) w w') from
    fun sl o => readAt_fail x f w sl o hx h
  have h1 : w.cell? ⟨x.ib, 5, none⟩ = some (.iface 30 (.pointer (some ⟨x.db, 0, none⟩))) := by have := h.imF; rw [hm] at this; exact this
  have HE := show Hid (∀ w1, Kept x.db (x.fail + 1) w w1 → ∃ a, w1.cell? ⟨2, 0, none⟩ = some (.iface 67 (.pointer (some a)))) from fun w1 hk => (h.kept hx hk).eof
  have := hx.L2
  clear h hx hm
  generalize x.db = db at *
  generalize x.ib = ib at *
  generalize x.sb = sb at *
  generalize x.fail = fl at *
  generalize x.L = L at *
  go_enter Ybaf.func21, Ybaf.ntmps21
  go_wp2_with (first
    | (go_at_call 40; refine (HC.out _ _).mono ?_; rintro e w1 ⟨rfl, hk⟩; obtain ⟨ae, he⟩ := HE.out _ hk; have HK := show Hid (Kept db (fl + 1) w w1) from hk; clear hk)
    | (go_at_call 23; refine (or_first _ ⟨sb, 0, none⟩ _ ?_).mono ?_; go_simp; rintro e w2 ⟨rfl, rfl⟩))
  all_goals (try go_wp2)
  go_ret
  exact ⟨rfl, HK.out.trans (Kept.of_below ((Below.refl _ _).alloc (Nat.le_refl _) _) HK.out.d1)⟩

end Go.Proofs.YbulkdxxmFmt
