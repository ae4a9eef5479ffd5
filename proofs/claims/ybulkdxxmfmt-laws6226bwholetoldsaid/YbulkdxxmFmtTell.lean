/-
  What extent tells; the memory that the law lays.
-/
import Derived.Test.YbulkdxxmFmtCopies
namespace Go.Proofs.YbulkdxxmFmt
open Go.RowKit Go.Extern.Stop Go.Stop Go.Extern

/-- What extent hands back, and how often the reader has been asked. -/
def Tell (x : Box) (f : List Int) (fd : Nat) (v1 v2 : Value) (k : Nat) (w' : World) : Prop :=
  (x.nf = 0 ∧ v1 = .int .u64 ((fd + 8 * x.nf + 8 : Nat) : Int) ∧ v2 = .nilIface ∧ k = 0) ∨
  (0 < x.nf ∧ x.mapped = false ∧ x.fail = 0 ∧ v1 = .int .u64 0 ∧ (∃ pb, v2 = .iface 100 (.pointer (some ⟨pb, 0, none⟩)) ∧ w'.cell? ⟨pb, 1, none⟩ = some (.iface 67 (.pointer (some ⟨x.sb, 0, none⟩)))) ∧ k = 1) ∨
  (0 < x.nf ∧ x.may 0 ∧
    ((x.held ≤ x.poff + x.rc f fd ∧ v1 = .int .u64 ((fd + 8 * x.nf + 8 : Nat) : Int) ∧ v2 = .nilIface ∧ k = x.next 0) ∨
     (x.poff + x.rc f fd < x.held ∧ x.mapped = false ∧ x.fail = 1 ∧ v1 = .int .u64 0 ∧ (∃ pb, v2 = .iface 100 (.pointer (some ⟨pb, 0, none⟩)) ∧ w'.cell? ⟨pb, 1, none⟩ = some (.iface 67 (.pointer (some ⟨x.sb, 0, none⟩)))) ∧ k = 2) ∨
     (x.poff + x.rc f fd < x.held ∧ x.may (x.next 0) ∧ x.held - (x.poff + x.rc f fd) < x.sz ∧ v1 = .int .u64 ((fd + 8 * x.nf + 8 : Nat) : Int) ∧ v2 = .nilIface ∧ k = x.next (x.next 0)) ∨
     (x.poff + x.rc f fd < x.held ∧ x.may (x.next 0) ∧ x.sz ≤ x.held - (x.poff + x.rc f fd) ∧ v1 = .int .u64 ((max (fd + 8 * x.nf + 8) (x.far f fd) : Nat) : Int) ∧ v2 = .nilIface ∧ k = x.next (x.next 0))))

theorem ext_any (F : Interp) (x : Box) (f : List Int) (fd : Nat) (w : World) (hF : F.answers w.tape) (hx : x.Ok) (hE : Env x f 0 w) (hs : x.sz = 40 ∨ x.sz = 44) (hfd : fd < 32) (hp1 : 0 < x.nf → x.poff + (fd + 8 * x.nf - 4) + 4 ≤ x.held) :
    Calls Ybaf.prog 6 #[.pointer (some ⟨x.tb, 0, none⟩), .int .u64 fd] w fun e w' => ∃ v1 v2 k, e = .returned (.tuple #[v1, v2]) ∧ Kept x.db k w w' ∧ Tell x f fd v1 v2 k w' := by
  rcases Nat.eq_zero_or_pos x.nf with h0 | hpos
  · refine (ext_zero x f 0 fd w hE hfd h0).mono fun e w' ⟨h1, h2⟩ => ⟨_, _, 0, h1, h2, Or.inl ⟨h0, ?_, rfl, rfl⟩⟩
    rw [h0]
  · by_cases hmay : x.may 0
    · refine (ext_some F x f 0 fd w hF hx hE hs hmay rfl hfd hpos (hp1 hpos)).mono fun e w' h => ?_
      rcases h with ⟨h1, h2, h3⟩ | ⟨h1, h2, h3, pb, h4, h5, h6⟩ | ⟨h1, h2, h3, h4, h5⟩ | ⟨h1, h2, h3, h4, h5⟩
      · exact ⟨_, _, _, h2, h3, Or.inr (Or.inr ⟨hpos, hmay, Or.inl ⟨h1, rfl, rfl, rfl⟩⟩)⟩
      · have hn : x.next 0 = 1 := by unfold Box.next; rw [h2]; rfl
        have hf1 : x.fail = 1 := by omega
        rw [hf1] at h6
        exact ⟨_, _, _, h4, h6, Or.inr (Or.inr ⟨hpos, hmay, Or.inr (Or.inl ⟨h1, h2, hf1, rfl, ⟨pb, rfl, h5⟩, rfl⟩)⟩)⟩
      · exact ⟨_, _, _, h4, h5, Or.inr (Or.inr ⟨hpos, hmay, Or.inr (Or.inr (Or.inl ⟨h1, h2, h3, rfl, rfl, rfl⟩))⟩)⟩
      · exact ⟨_, _, _, h4, h5, Or.inr (Or.inr ⟨hpos, hmay, Or.inr (Or.inr (Or.inr ⟨h1, h2, h3, rfl, rfl, rfl⟩))⟩)⟩
    · obtain ⟨hmp, hf0⟩ : x.mapped = false ∧ x.fail = 0 := by
        unfold Box.may at hmay
        cases hmm : x.mapped with
        | true => exact absurd (Or.inl hmm) hmay
        | false =>
          refine ⟨rfl, ?_⟩
          by_cases hq : 0 = x.fail
          · exact hq.symm
          · exact absurd (Or.inr ⟨hmm, hq, by decide⟩) hmay
      have hE' : Env x f x.fail w := by rw [hf0]; exact hE
      have hp := hp1 hpos
      refine (ext_fail1 F x f fd w hF hx hE' hmp hfd hpos (by omega)).mono fun e w' ⟨pb, h1, h2, h3⟩ => ?_
      rw [hf0] at h3
      exact ⟨_, _, _, h1, h3, Or.inr (Or.inl ⟨hpos, hmp, hf0, rfl, ⟨pb, rfl, h2⟩, rfl⟩)⟩

/-- The six blocks that the law lays behind V. -/
def Box.laid (x : Box) (V : World) : World :=
  (((((V.alloc (.cells #[.string x.txt] 69)).alloc (.cells #[.slice (some ⟨x.fb, 0, none⟩) x.L x.L, .int .i64 0, .int .i64 x.fail, .iface 67 (.pointer (some ⟨V.heap.size, 0, none⟩))] 32)).alloc
    (.cells #[.string ⟨#[]⟩, .string ⟨#[]⟩, .slice none 0 0, .pointer none, .int .u64 0, if x.mapped then .nilIface else .iface 30 (.pointer (some ⟨V.heap.size + 1, 0, none⟩)), .int .i64 x.L, if x.mapped then .slice (some ⟨x.fb, 0, none⟩) x.L x.L else .slice none 0 0, .nilFunc] 39)).alloc
    (.cells #[.string ⟨#[]⟩, .int .u64 0, .int .u64 0, .bool false, .bool false, .int .u64 x.roff, .int .u64 x.filesz] 41)).alloc
    (.cells #[.string ⟨#[]⟩, .int .u32 0, .int .i64 x.sz, .int .i64 0, .int .i64 0, .int .i64 0] 48)).alloc
    (.cells #[.int .u64 0, .pointer (some ⟨V.heap.size + 1 + 1 + 1 + 1, 0, none⟩), .iface (ordT x.big) (.agg #[]), .int .i64 0, .int .i64 0, .int .i64 x.nf, .int .u64 0, .int .u64 0, .int .u64 0, .int .u32 0, .int .u32 0,
      .pointer none, .int .u64 0, .int .u64 0, .pointer none, .int .u64 0, .int .u64 0, .pointer none, .int .u64 0, .int .u64 0, .pointer none, .int .u64 0, .int .u64 0, .pointer none, .int .u64 0, .int .u64 0, .pointer none,
      .pointer (some ⟨V.heap.size + 1 + 1, 0, none⟩), .pointer (some ⟨V.heap.size + 1 + 1 + 1, 0, none⟩), .int .u64 x.poff, .int .u64 0, .bool false] 60)

theorem row_old {w : World} {b : Nat} {o o' : Obj} (h : w.heap[b]? = some o) : (w.alloc o').heap[b]? = some o := by
  have hb : b < w.heap.size := by
    rcases Nat.lt_or_ge b w.heap.size with h' | h'
    · exact h'
    · rw [Array.getElem?_eq_none h'] at h; cases h
  rw [Below.heap_alloc _ _ _ hb]; exact h
theorem row_new (w : World) (o : Obj) : (w.alloc o).heap[w.heap.size]? = some o := Go.Deep.blk_alloc_new w o
theorem cell_row {w : World} {b i : Nat} {c : Array Value} {t : TypeId} {z : Nat × Nat} {v : Value} (h : w.heap[b]? = some (.cells c t z)) (hi : c[i]? = some v) : w.cell? ⟨b, i, none⟩ = some v := by
  show (match w.heap[b]? with | some (Obj.cells c _ _) => c[i]? | _ => none) = _
  rw [h]; exact hi

theorem laid_rows (x : Box) (V : World) : Below V.heap.size V (x.laid V) ∧
    (x.laid V).heap[V.heap.size]? = some (.cells #[.string x.txt] 69 (0, 0)) ∧
    (x.laid V).heap[V.heap.size + 1]? = some (.cells #[.slice (some ⟨x.fb, 0, none⟩) x.L x.L, .int .i64 0, .int .i64 x.fail, .iface 67 (.pointer (some ⟨V.heap.size, 0, none⟩))] 32 (0, 0)) ∧
    (x.laid V).heap[V.heap.size + 1 + 1]? = some (.cells #[.string ⟨#[]⟩, .string ⟨#[]⟩, .slice none 0 0, .pointer none, .int .u64 0, if x.mapped then .nilIface else .iface 30 (.pointer (some ⟨V.heap.size + 1, 0, none⟩)), .int .i64 x.L, if x.mapped then .slice (some ⟨x.fb, 0, none⟩) x.L x.L else .slice none 0 0, .nilFunc] 39 (0, 0)) ∧
    (x.laid V).heap[V.heap.size + 1 + 1 + 1]? = some (.cells #[.string ⟨#[]⟩, .int .u64 0, .int .u64 0, .bool false, .bool false, .int .u64 x.roff, .int .u64 x.filesz] 41 (0, 0)) ∧
    (x.laid V).heap[V.heap.size + 1 + 1 + 1 + 1]? = some (.cells #[.string ⟨#[]⟩, .int .u32 0, .int .i64 x.sz, .int .i64 0, .int .i64 0, .int .i64 0] 48 (0, 0)) ∧
    (x.laid V).heap[V.heap.size + 1 + 1 + 1 + 1 + 1]? = some (.cells #[.int .u64 0, .pointer (some ⟨V.heap.size + 1 + 1 + 1 + 1, 0, none⟩), .iface (ordT x.big) (.agg #[]), .int .i64 0, .int .i64 0, .int .i64 x.nf, .int .u64 0, .int .u64 0, .int .u64 0, .int .u32 0, .int .u32 0,
      .pointer none, .int .u64 0, .int .u64 0, .pointer none, .int .u64 0, .int .u64 0, .pointer none, .int .u64 0, .int .u64 0, .pointer none, .int .u64 0, .int .u64 0, .pointer none, .int .u64 0, .int .u64 0, .pointer none,
      .pointer (some ⟨V.heap.size + 1 + 1, 0, none⟩), .pointer (some ⟨V.heap.size + 1 + 1 + 1, 0, none⟩), .int .u64 x.poff, .int .u64 0, .bool false] 60 (0, 0)) := by
  have hs : ∀ (w : World) (o : Obj), (w.alloc o).heap.size = w.heap.size + 1 := fun w o => by simp
  refine ⟨?_, ?_, ?_, ?_, ?_, ?_, ?_⟩
  · unfold Box.laid
    exact ((((((Below.refl _ V).alloc (Nat.le_refl _) _).alloc (by simp only [hs]; omega) _).alloc (by simp only [hs]; omega) _).alloc (by simp only [hs]; omega) _).alloc (by simp only [hs]; omega) _).alloc (by simp only [hs]; omega) _
  · exact row_old (row_old (row_old (row_old (row_old (row_new _ _)))))
  · refine row_old (row_old (row_old (row_old ?_)))
    have := row_new (V.alloc (.cells #[.string x.txt] 69)) (.cells #[.slice (some ⟨x.fb, 0, none⟩) x.L x.L, .int .i64 0, .int .i64 x.fail, .iface 67 (.pointer (some ⟨V.heap.size, 0, none⟩))] 32)
    simp only [hs] at this
    exact this
  · refine row_old (row_old (row_old ?_))
    generalize hw : (V.alloc (.cells #[.string x.txt] 69)).alloc (.cells #[.slice (some ⟨x.fb, 0, none⟩) x.L x.L, .int .i64 0, .int .i64 x.fail, .iface 67 (.pointer (some ⟨V.heap.size, 0, none⟩))] 32) = w
    have hsz : w.heap.size = V.heap.size + 1 + 1 := by rw [← hw]; simp only [hs]
    rw [← hsz]
    exact row_new _ _
  · refine row_old (row_old ?_)
    generalize hw : ((V.alloc (.cells #[.string x.txt] 69)).alloc (.cells #[.slice (some ⟨x.fb, 0, none⟩) x.L x.L, .int .i64 0, .int .i64 x.fail, .iface 67 (.pointer (some ⟨V.heap.size, 0, none⟩))] 32)).alloc _ = w
    have hsz : w.heap.size = V.heap.size + 1 + 1 + 1 := by rw [← hw]; simp only [hs]
    rw [← hsz]
    exact row_new _ _
  · refine row_old ?_
    generalize hw : (((V.alloc (.cells #[.string x.txt] 69)).alloc (.cells #[.slice (some ⟨x.fb, 0, none⟩) x.L x.L, .int .i64 0, .int .i64 x.fail, .iface 67 (.pointer (some ⟨V.heap.size, 0, none⟩))] 32)).alloc _).alloc _ = w
    have hsz : w.heap.size = V.heap.size + 1 + 1 + 1 + 1 := by rw [← hw]; simp only [hs]
    rw [← hsz]
    exact row_new _ _
  · unfold Box.laid
    generalize hw : ((((V.alloc (.cells #[.string x.txt] 69)).alloc (.cells #[.slice (some ⟨x.fb, 0, none⟩) x.L x.L, .int .i64 0, .int .i64 x.fail, .iface 67 (.pointer (some ⟨V.heap.size, 0, none⟩))] 32)).alloc _).alloc _).alloc _ = w
    have hsz : w.heap.size = V.heap.size + 1 + 1 + 1 + 1 + 1 := by rw [← hw]; simp only [hs]
    rw [← hsz]
    exact row_new _ _

theorem env_new (x : Box) (f : List Int) (V : World) (h1 : x.sb = V.heap.size) (h2 : x.db = V.heap.size + 1) (h3 : x.ib = V.heap.size + 1 + 1) (h4 : x.rb = V.heap.size + 1 + 1 + 1) (h5 : x.lb = V.heap.size + 1 + 1 + 1 + 1) (h6 : x.tb = V.heap.size + 1 + 1 + 1 + 1 + 1)
    (hfile : ∀ i, i < x.L → V.cell? ⟨x.fb, i, none⟩ = some (.int .u8 (f.getD i 0))) (hby : ∀ i, 0 ≤ f.getD i 0 ∧ f.getD i 0 ≤ 255) (heof : ∃ a, V.cell? ⟨2, 0, none⟩ = some (.iface 67 (.pointer (some a)))) : Env x f 0 (x.laid V) := by
  obtain ⟨hb, r0, r1, r2, r3, r4, r5⟩ := laid_rows x V
  rw [← h1] at r0
  rw [← h2] at r1
  rw [← h3] at r2
  rw [← h4] at r3
  rw [← h5] at r4
  rw [← h6] at r5
  rw [← h5, ← h4, ← h3] at r5
  rw [← h2] at r2
  rw [← h1] at r1
  exact { tLay := cell_row r5 rfl, tOrd := cell_row r5 rfl, tN := cell_row r5 rfl, tP0 := cell_row r5 rfl, tP1 := cell_row r5 rfl, tP2 := cell_row r5 rfl, tP3 := cell_row r5 rfl, lay := cell_row r4 rfl
          imF := cell_row r2 rfl, imS := cell_row r2 rfl, imD := cell_row r2 rfl, r0 := cell_row r3 rfl, r5 := cell_row r3 rfl, r6 := cell_row r3 rfl
          d0 := cell_row r1 rfl, d1 := cell_row r1 rfl, d2 := cell_row r1 rfl, d3 := cell_row r1 rfl, df := by simp [World.frozen?, r1]
          file := fun i hi => cell_later hb (hfile i hi), byte := hby, sent := cell_row r0 rfl, eof := heof.imp fun a ha => cell_later hb ha }
end Go.Proofs.YbulkdxxmFmt
