/-
  What lies in memory when the law calls 'extent': the table, the image, the region, the reader, the file; and how a read changes it.
-/
import Derived.Test.YbulkdxxmFmtSmall
namespace Go.Proofs.YbulkdxxmFmt
open Go.RowKit

/-- The blocks and the numbers. -/
structure Box where
  tb : Nat
  lb : Nat
  ib : Nat
  rb : Nat
  fb : Nat
  db : Nat
  sb : Nat
  L : Nat
  roff : Nat
  filesz : Nat
  poff : Nat
  nf : Nat
  sz : Nat
  fail : Nat
  big : Bool
  mapped : Bool
  txt : ByteArray

def Box.held (x : Box) : Nat := min x.filesz (x.L - x.roff)

structure Box.Ok (x : Box) : Prop where
  t : x.tb ≠ x.db
  l : x.lb ≠ x.db
  i : x.ib ≠ x.db
  r : x.rb ≠ x.db
  f : x.fb ≠ x.db
  s : x.sb ≠ x.db
  e : 2 ≠ x.db
  L1 : 200 ≤ x.L
  L2 : x.L ≤ 2000000
  roff : x.roff < 16
  poff : x.poff < 16
  fz : x.filesz ≤ 2000000
  nf : x.nf < 12
  sz1 : 40 ≤ x.sz
  sz2 : x.sz ≤ 44
  fail : x.fail < 3

/-- Memory. -/
structure Env (x : Box) (f : List Int) (calls : Nat) (w : World) : Prop where
  tLay : w.cell? ⟨x.tb, 1, none⟩ = some (.pointer (some ⟨x.lb, 0, none⟩))
  tOrd : w.cell? ⟨x.tb, 2, none⟩ = some (.iface (ordT x.big) (.agg #[]))
  tN : w.cell? ⟨x.tb, 5, none⟩ = some (.int .i64 x.nf)
  tP0 : w.cell? ⟨x.tb, 27, none⟩ = some (.pointer (some ⟨x.ib, 0, none⟩))
  tP1 : w.cell? ⟨x.tb, 28, none⟩ = some (.pointer (some ⟨x.rb, 0, none⟩))
  tP2 : w.cell? ⟨x.tb, 29, none⟩ = some (.int .u64 x.poff)
  tP3 : w.cell? ⟨x.tb, 30, none⟩ = some (.int .u64 0)
  lay : w.cell? ⟨x.lb, 2, none⟩ = some (.int .i64 x.sz)
  imF : w.cell? ⟨x.ib, 5, none⟩ = some (if x.mapped then .nilIface else .iface 30 (.pointer (some ⟨x.db, 0, none⟩)))
  imS : w.cell? ⟨x.ib, 6, none⟩ = some (.int .i64 x.L)
  imD : w.cell? ⟨x.ib, 7, none⟩ = some (if x.mapped then .slice (some ⟨x.fb, 0, none⟩) x.L x.L else .slice none 0 0)
  r0 : w.cell? ⟨x.rb, 0, none⟩ = some (.string ⟨#[]⟩)
  r5 : w.cell? ⟨x.rb, 5, none⟩ = some (.int .u64 x.roff)
  r6 : w.cell? ⟨x.rb, 6, none⟩ = some (.int .u64 x.filesz)
  d0 : w.cell? ⟨x.db, 0, none⟩ = some (.slice (some ⟨x.fb, 0, none⟩) x.L x.L)
  d1 : w.cell? ⟨x.db, 1, none⟩ = some (.int .i64 calls)
  d2 : w.cell? ⟨x.db, 2, none⟩ = some (.int .i64 x.fail)
  d3 : w.cell? ⟨x.db, 3, none⟩ = some (.iface 67 (.pointer (some ⟨x.sb, 0, none⟩)))
  df : w.frozen? ⟨x.db, 1, none⟩ = false
  file : ∀ i, i < x.L → w.cell? ⟨x.fb, i, none⟩ = some (.int .u8 (f.getD i 0))
  byte : ∀ i, 0 ≤ f.getD i 0 ∧ f.getD i 0 ≤ 255
  sent : w.cell? ⟨x.sb, 0, none⟩ = some (.string x.txt)
  eof : ∃ a, w.cell? ⟨2, 0, none⟩ = some (.iface 67 (.pointer (some a)))

/-- New blocks, and the reader's counter. -/
structure Kept (db : Nat) (k : Nat) (w w' : World) : Prop where
  os : w'.os = w.os
  tape : w'.tape = w.tape
  output : w'.output = w.output
  size : w.heap.size ≤ w'.heap.size
  block : ∀ b, b < w.heap.size → b ≠ db → w'.heap[b]? = w.heap[b]?
  d1 : w'.cell? ⟨db, 1, none⟩ = some (.int .i64 k)
  dx : ∀ o, o ≠ 1 → w'.cell? ⟨db, o, none⟩ = w.cell? ⟨db, o, none⟩
  df : w'.frozen? ⟨db, 1, none⟩ = w.frozen? ⟨db, 1, none⟩

theorem Kept.cell {db k : Nat} {w w' : World} (h : Kept db k w w') {a : Addr} {v : Value} (hc : w.cell? a = some v) (hd : a.block ≠ db) : w'.cell? a = some v :=
  (World.cell?_of_block (w := w) (h.block a.block (World.block_lt_of_cell? _ _ hc) hd)).trans hc

theorem Kept.trans {db k k' : Nat} {a b c : World} (h : Kept db k a b) (g : Kept db k' b c) : Kept db k' a c :=
  ⟨g.os.trans h.os, g.tape.trans h.tape, g.output.trans h.output, Nat.le_trans h.size g.size, fun i h1 h2 => (g.block i (Nat.lt_of_lt_of_le h1 h.size) h2).trans (h.block i h1 h2),
    g.d1, fun o ho => (g.dx o ho).trans (h.dx o ho), g.df.trans h.df⟩

theorem Kept.of_below {db k : Nat} {w w' : World} (h : Below w.heap.size w w') (hd : w.cell? ⟨db, 1, none⟩ = some (.int .i64 k)) : Kept db k w w' := by
  have hlt : db < w.heap.size := World.block_lt_of_cell? _ _ hd
  exact ⟨h.os, h.tape, h.output, h.size, fun b hb _ => h.block b hb, (h.cell (by exact hlt)).trans hd, fun o _ => h.cell (by exact hlt), h.frozen (by exact hlt)⟩

theorem Kept.count {db k k' : Nat} {w : World} (hd : w.cell? ⟨db, 1, none⟩ = some (.int .i64 k)) : Kept db k' w (w.setCell ⟨db, 1, none⟩ (.int .i64 k')) := by
  refine ⟨rfl, rfl, rfl, by simp [World.setCell], fun b _ hb => Below.heap_setCell _ _ _ _ hb, World.cell?_setCell_same _ _ _ hd, fun o ho => ?_, World.frozen?_setCell _ _ _ _⟩
  exact World.cell?_setCell_other _ _ _ _ (fun e => ho (congrArg Addr.off e).symm)

theorem Kept.below {db k B : Nat} {w w' : World} (h : Kept db k w w') (h1 : B ≤ db) (h2 : B ≤ w.heap.size) : Below B w w' :=
  ⟨h.os, h.tape, h.output, h.size, fun b hb => h.block b (by omega) (by omega)⟩

theorem Env.kept {x : Box} {f : List Int} {c k : Nat} {w w' : World} (hx : x.Ok) (h : Env x f c w) (g : Kept x.db k w w') : Env x f k w' where
  tLay := g.cell h.tLay hx.t
  tOrd := g.cell h.tOrd hx.t
  tN := g.cell h.tN hx.t
  tP0 := g.cell h.tP0 hx.t
  tP1 := g.cell h.tP1 hx.t
  tP2 := g.cell h.tP2 hx.t
  tP3 := g.cell h.tP3 hx.t
  lay := g.cell h.lay hx.l
  imF := g.cell h.imF hx.i
  imS := g.cell h.imS hx.i
  imD := g.cell h.imD hx.i
  r0 := g.cell h.r0 hx.r
  r5 := g.cell h.r5 hx.r
  r6 := g.cell h.r6 hx.r
  d0 := (g.dx 0 (by decide)).trans h.d0
  d1 := g.d1
  d2 := (g.dx 2 (by decide)).trans h.d2
  d3 := (g.dx 3 (by decide)).trans h.d3
  df := g.df.trans h.df
  file := fun i hi => g.cell (h.file i hi) hx.f
  byte := h.byte
  sent := g.cell h.sent hx.s
  eof := h.eof.imp fun a ha => g.cell ha hx.e

theorem Env.below {x : Box} {f : List Int} {c : Nat} {w w' : World} (hx : x.Ok) (h : Env x f c w) (g : Below w.heap.size w w') : Env x f c w' := h.kept hx (Kept.of_below g h.d1)
theorem Env.drewN {x : Box} {f : List Int} {c : Nat} {w : World} (hx : x.Ok) (h : Env x f c w) (n : Nat) : Env x f c (w.drewN n) := h.below hx (below_drewN (Below.refl _ _) n)
theorem Env.alloc {x : Box} {f : List Int} {c : Nat} {w : World} (hx : x.Ok) (h : Env x f c w) (o : Obj) : Env x f c (w.alloc o) := h.below hx ((Below.refl _ _).alloc (Nat.le_refl _) o)

theorem held_lo {x : Box} (h : x.filesz ≤ x.L - x.roff) : x.held = x.filesz := by unfold Box.held; omega
theorem held_hi {x : Box} (h : ¬ x.filesz ≤ x.L - x.roff) : x.held = x.L - x.roff := by unfold Box.held; omega
theorem ret_u64 {a b : Int} (h : a = b) : Ending.returned (.int .u64 a) = .returned (.int .u64 b) := by rw [h]

set_option maxHeartbeats 400000 in
theorem held_any (x : Box) (f : List Int) (c : Nat) (w : World) (hx : x.Ok) (h : Env x f c w) :
    Calls Ybaf.prog 18 #[.pointer (some ⟨x.ib, 0, none⟩), .pointer (some ⟨x.rb, 0, none⟩)] w fun e w' => e = .returned (.int .u64 (x.held : Nat)) ∧ Below w.heap.size w w' := by
  have h1 := h.imS
  have h2 := h.r5
  have h3 := h.r6
  have := hx.L1
  have := hx.L2
  have := hx.roff
  have := hx.fz
  clear h hx
  by_cases hc : x.filesz ≤ x.L - x.roff
  · rw [held_lo hc]
    generalize x.filesz = fz at *
    generalize x.L = L at *
    generalize x.roff = ro at *
    go_enter Ybaf.func18, Ybaf.ntmps18
    go_wp2
    go_quiet (fail)
    go_wp2
    go_quiet (fail)
    go_wp2
    go_ret
    exact ⟨ret_u64 (by omega), below_drewN (below_drewN (Below.refl _ w) _) _⟩
  · rw [held_hi hc]
    generalize x.filesz = fz at *
    generalize x.L = L at *
    generalize x.roff = ro at *
    go_enter Ybaf.func18, Ybaf.ntmps18
    go_wp2
    go_quiet (fail)
    go_wp2
    go_quiet (fail)
    go_wp2
    go_ret
    exact ⟨ret_u64 (by omega), below_drewN (below_drewN (Below.refl _ w) _) _⟩
end Go.Proofs.YbulkdxxmFmt
