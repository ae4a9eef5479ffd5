import Derived.Test.YbulkdxxmSeq
import Derived.OpenShut
namespace Go.Proofs.Ybulkdxxm
open Go.RowKit

theorem Yba.info26 : (Yba.prog.info? 26).map (fun i => (i.zero, i.size, i.bytes)) = some (some (.agg #[.string ⟨#[]⟩, .int .u64 0, .int .u64 0, .bool false, .bool false, .int .u64 0, .int .u64 0]), 7, 56) := by kernel_rfl

/-- A slice of bools as the walk wants it. -/
def Flags (w : World) (a : Option Addr) (ws : List Bool) : Prop :=
  0 < ws.length → ∃ b off, a = some ⟨b, off, none⟩ ∧ b < w.heap.size ∧ ∀ i, i < ws.length → w.cell? ⟨b, off + i, none⟩ = some (.bool (ws.getD i false))

/-- 'make([]region, n)'. -/
theorem make_regions (n : Nat) (h : n ≤ 1048576) (w : World) : (Instr.makeSlice 23 (.int .i64 (n : Int)) (.int .i64 (n : Int))).run Yba.prog w =
    .ok (.slice (some ⟨w.heap.size, 0, none⟩) n n) (w.alloc (.cells (madeCells #[.string ⟨#[]⟩, .int .u64 0, .int .u64 0, .bool false, .bool false, .int .u64 0, .int .u64 0] (n * 7)) 26)) := by
  obtain ⟨i, hi, hz, hs, hb⟩ := info_parts Yba.info26
  have hr := run_make (P := Yba.prog) w 23 26 i _ Yba.underlying23 hi hz .i64 .i64 n n (by omega) (Int.le_refl _) (by rw [hb]; omega) (by omega)
  simp only [Int.toNat_natCast, hs] at hr
  exact hr

/-- 'make([]int, 0, n)'. -/
theorem make_full (n : Nat) (h : n ≤ 1048576) (w : World) : (Instr.makeSlice 29 (.int .i64 0) (.int .i64 (n : Int))).run Yba.prog w =
    .ok (.slice (some ⟨w.heap.size, 0, none⟩) 0 n) (w.alloc (.cells (madeCells #[.int .i64 0] n) 3)) := by
  obtain ⟨i, hi, hz, hs, hb⟩ := info_parts Yba.info3
  have hr := run_make (P := Yba.prog) w 29 3 i _ Yba.underlying29 hi hz .i64 .i64 0 n (by omega) (by omega) (by rw [hb]; omega) (by omega)
  simp only [Int.toNat_natCast, hs, Nat.mul_one] at hr
  exact hr

theorem rowIs_setCells {b : Nat} {t : TypeId} {n : Nat} : ∀ (vs : List Value) (o : Nat) (f : Nat → Value) (w : World), w.rowIs b t n f →
    (w.setCells b o vs).rowIs b t n (fun j => if o ≤ j ∧ j < o + vs.length then vs.getD (j - o) undef else f j)
  | [], o, f, w, h => by
    refine h.congr fun i _ => ?_
    rw [if_neg (by simp)]
  | v :: r, o, f, w, h => by
    have ih := rowIs_setCells r (o + 1) _ _ (h.set o v)
    refine ih.congr fun i _ => ?_
    by_cases h1 : o + 1 ≤ i ∧ i < o + 1 + r.length
    · rw [if_pos h1, if_pos (by simp; omega), show i - o = (i - (o + 1)) + 1 by omega]; simp
    · rw [if_neg h1]
      by_cases h2 : i = o
      · subst h2; rw [if_pos rfl, if_pos (by simp)]; simp
      · rw [if_neg h2, if_neg (by simp; omega)]

/-- Loop 1: the first k regions are laid in block N. -/
def Laid (N : Nat) (ws : List Bool) (k : Nat) (w wr : World) : Prop :=
  wr.heap.size = N + 1 ∧ Below N w wr ∧ ∃ f : Nat → Value, wr.rowIs N 26 (ws.length * 7) f ∧ ∀ i, i < k → ∀ (j : Nat) (v : Value), (regCells i (ws.getD i false))[j]? = some v → f (i * 7 + j) = v

theorem Laid.start (ws : List Bool) (w : World) (z : Array Value) (hz : 0 < z.size) : Laid w.heap.size ws 0 w (w.alloc (.cells (madeCells z (ws.length * 7)) 26)) := by
  refine ⟨by simp, (Below.refl _ _).alloc (Nat.le_refl _) _, fun j => z.getD (j % z.size) undef, ⟨_, Go.Deep.blk_alloc_new _ _, size_madeCells _ _, fun i hi => ?_⟩, fun i hi => by omega⟩
  simp [madeCells, hi, Nat.mod_lt _ hz]

theorem regCells_size (i : Nat) (b : Bool) : (regCells i b).size = 7 := rfl

theorem Laid.step {N : Nat} {ws : List Bool} {k : Nat} {w wr : World} (h : Laid N ws k w wr) (b : Bool) (hb : ws.getD k false = b) :
    Laid N ws (k + 1) w (wr.setCells N (k * 7) (regCells k b).toList) := by
  obtain ⟨h1, h2, f, h3, h4⟩ := h
  have hsz : ∀ (vs : List Value) (o : Nat) (x : World), (x.setCells N o vs).heap.size = x.heap.size := by
    intro vs
    induction vs with
    | nil => intro o x; rfl
    | cons v r ih => intro o x; show ((x.setCell ⟨N, o, none⟩ v).setCells N (o + 1) r).heap.size = _; rw [ih]; simp [World.setCell]
  have hbe : ∀ (vs : List Value) (o : Nat) (x : World), Below N w x → Below N w (x.setCells N o vs) := by
    intro vs
    induction vs with
    | nil => intro o x hx; exact hx
    | cons v r ih => intro o x hx; exact ih (o + 1) _ (hx.setCell (p := ⟨N, o, none⟩) (Nat.le_refl _) v)
  refine ⟨by rw [hsz]; exact h1, hbe _ _ _ h2, _, rowIs_setCells _ _ _ _ h3, fun i hi j v hv => ?_⟩
  have hj : j < 7 := by
    have := (Array.getElem?_eq_some_iff.1 hv).1
    rwa [regCells_size] at this
  by_cases e : i = k
  · subst e
    rw [hb] at hv
    rw [if_pos (by simp [regCells_size]; omega), show i * 7 + j - i * 7 = j by omega]
    rw [List.getD_eq_getElem?_getD, Array.getElem?_toList, hv]; rfl
  · rw [if_neg (by simp [regCells_size]; omega)]
    exact h4 i (by omega) j v hv

theorem reg_size (k : Nat) (b : Bool) : (Yba.prog.info? 26).map (·.size) = some (regCells k b).size := by rw [regCells_size]; exact Yba.size26
theorem reg_one (k : Nat) (b : Bool) : (regCells k b).all (·.oneCell') = true := by simp [regCells, Value.oneCell']

theorem Laid.cells {N : Nat} {ws : List Bool} {k : Nat} {w wr : World} (h : Laid N ws k w wr) (hk : k < ws.length) : (∀ j, j < 7 → (wr.cell? ⟨N, k * 7 + j, none⟩).isSome = true) ∧ (∀ j, j < 7 → wr.frozen? ⟨N, k * 7 + j, none⟩ = false) := by
  obtain ⟨h1, h2, f, h3, h4⟩ := h
  exact ⟨fun j hj => by rw [h3.cell (by omega)]; rfl, fun j _ => h3.frozen _⟩

theorem Laid.regs {N : Nat} {ws : List Bool} {w wr : World} (h : Laid N ws ws.length w wr) : Regs N ws wr := by
  obtain ⟨h1, h2, f, h3, h4⟩ := h
  intro i hi j v hv
  have hj : j < 7 := by
    have := (Array.getElem?_eq_some_iff.1 hv).1
    rwa [regCells_size] at this
  rw [h3.cell (by omega), h4 i hi j v hv]

theorem newmem_any (a : Option Addr) (n c : Nat) (w : World) :
    Calls Yba.prog 5 #[.pointer none, .slice a n c] w fun e w' => e = .returned (.pointer (some ⟨w.heap.size, 0, none⟩)) ∧ w' = w.alloc (.cells #[.pointer none, .slice a n c] 36) := by
  go_enter Yba.func5, Yba.ntmps5
  go_wp2
  go_ret
  exact ⟨rfl, rfl⟩

theorem wfirst_any (p : Addr) (w : World) :
    Calls Yba.prog 6 #[.pointer (some p)] w fun e w' => e = .returned (.func (.func 13) #[] #[.pointer (some ⟨w.heap.size, 0, none⟩)]) ∧ w' = w.alloc (.cells #[.pointer (some p)] 27) := by
  go_enter Yba.func6, Yba.ntmps6
  go_wp2
  go_ret
  exact ⟨rfl, rfl⟩

/-- The world at the call of the sequence. -/
def W4 (N n limit : Nat) (wr : World) : World :=
  (((wr.alloc (.cells #[.pointer none, .slice (some ⟨N, 0, none⟩) n n] 36)).alloc (.cells #[.int .i64 (limit : Int)] 3)).alloc (.cells #[.slice none 0 0] 29)).alloc (.cells #[.pointer (some ⟨N + 1, 0, none⟩)] 27)

/-- What stands from the sequence's end on. -/
structure After (ws : List Bool) (limit : Nat) (w wx : World) : Prop where
  size : w.heap.size + 6 ≤ wx.heap.size
  bel : Below w.heap.size w wx
  regs : Regs w.heap.size ws wx
  mem0 : wx.cell? ⟨w.heap.size + 1, 0, none⟩ = some (.pointer none)
  mem1 : wx.cell? ⟨w.heap.size + 1, 1, none⟩ = some (.slice (some ⟨w.heap.size, 0, none⟩) ws.length ws.length)
  lim : wx.cell? ⟨w.heap.size + 1 + 1, 0, none⟩ = some (.int .i64 limit)
  log : LogIs (w.heap.size + 6) (w.heap.size + 1 + 1 + 1) (cutTo limit (full ws)) wx

theorem below_grown {w w' : World} (h : Below w.heap.size w w') : w.grownBy w' none := ⟨h.os, h.tape, h.output, h.size, fun k hk _ => h.block k hk⟩

theorem LogIs.below {base L : Nat} {xs : List Int} {w w' : World} (h : LogIs base L xs w) (hb : Below w.heap.size w w') : LogIs base L xs w' := by
  obtain ⟨v, h1, h2, h3⟩ := h
  have hl := World.block_lt_of_cell? _ _ h1
  refine ⟨v, by rw [hb.cell (by exact hl)]; exact h1, by rw [hb.frozen (by exact hl)]; exact h2, h3.kept (below_grown hb) ?_⟩
  cases v.ownBlock <;> simp

theorem After.below {ws : List Bool} {limit : Nat} {w wx wy : World} (h : After ws limit w wx) (hb : Below wx.heap.size wx wy) : After ws limit w wy := by
  have hs := h.size
  refine ⟨Nat.le_trans hs hb.size, h.bel.trans (hb.mono (by omega)), fun i hi j v hv => ?_, ?_, ?_, ?_, h.log.below hb⟩
  · rw [hb.cell (by simp; omega)]; exact h.regs i hi j v hv
  · rw [hb.cell (by simp; omega)]; exact h.mem0
  · rw [hb.cell (by simp; omega)]; exact h.mem1
  · rw [hb.cell (by simp; omega)]; exact h.lim

theorem w4_size (N n limit : Nat) (wr : World) : (W4 N n limit wr).heap.size = wr.heap.size + 4 := by simp [W4]

theorem w4_cells {N n limit : Nat} {wr : World} (h : wr.heap.size = N + 1) :
    (W4 N n limit wr).cell? ⟨N + 1, 0, none⟩ = some (.pointer none) ∧ (W4 N n limit wr).cell? ⟨N + 1, 1, none⟩ = some (.slice (some ⟨N, 0, none⟩) n n) ∧
    (W4 N n limit wr).cell? ⟨N + 1 + 1, 0, none⟩ = some (.int .i64 limit) ∧ (W4 N n limit wr).cell? ⟨N + 1 + 1 + 1, 0, none⟩ = some (.slice none 0 0) ∧ (W4 N n limit wr).frozen? ⟨N + 1 + 1 + 1, 0, none⟩ = false ∧
    (W4 N n limit wr).cell? ⟨N + 1 + 1 + 1 + 1, 0, none⟩ = some (.pointer (some ⟨N + 1, 0, none⟩)) ∧ Below (N + 1) wr (W4 N n limit wr) := by
  unfold W4
  refine ⟨?_, ?_, ?_, ?_, ?_, ?_, ?_⟩
  · rw [World.cell?_alloc_lt _ _ _ (by simp; omega), World.cell?_alloc_lt _ _ _ (by simp; omega), World.cell?_alloc_lt _ _ _ (by simp; omega), World.cell?_alloc_at (hn := by omega)]; rfl
  · rw [World.cell?_alloc_lt _ _ _ (by simp; omega), World.cell?_alloc_lt _ _ _ (by simp; omega), World.cell?_alloc_lt _ _ _ (by simp; omega), World.cell?_alloc_at (hn := by omega)]; rfl
  · rw [World.cell?_alloc_lt _ _ _ (by simp; omega), World.cell?_alloc_lt _ _ _ (by simp; omega), World.cell?_alloc_at (hn := by simp; omega)]; rfl
  · rw [World.cell?_alloc_lt _ _ _ (by simp; omega), World.cell?_alloc_at (hn := by simp; omega)]; rfl
  · rw [World.frozen?_alloc_past (hn := by simp; omega), World.frozen?_alloc_at (hn := by simp; omega)]
  · rw [World.cell?_alloc_at (hn := by simp; omega)]; rfl
  · exact ((((Below.refl _ _).alloc (by omega) _).alloc (by simp; omega) _).alloc (by simp; omega) _).alloc (by simp; omega) _

theorem after_seq {ws : List Bool} {limit : Nat} {w wr w5 : World} (hL : Laid w.heap.size ws ws.length w wr)
    (hlog : LogIs ((W4 w.heap.size ws.length limit wr).heap.size + 1) (w.heap.size + 1 + 1 + 1) (cutTo limit (full ws)) w5)
    (hk : Kept ((W4 w.heap.size ws.length limit wr).heap.size + 1) (w.heap.size + 1 + 1 + 1) ((W4 w.heap.size ws.length limit wr).alloc (.cells #[.bool true, .bool false] 4)) w5) : After ws limit w w5 := by
  have hs := hL.1
  have h4 := w4_size w.heap.size ws.length limit wr
  obtain ⟨c1, c2, c3, _, _, _, hb4⟩ := w4_cells (n := ws.length) (limit := limit) hs
  have hsz := hk.size
  rw [Go.Deep.nblk_alloc] at hsz
  have hlt : ∀ (b o : Nat), b < w.heap.size + 3 → w5.cell? ⟨b, o, none⟩ = (W4 w.heap.size ws.length limit wr).cell? ⟨b, o, none⟩ := fun b o h => by
    rw [hk.cell (by simp; omega) (by simp; omega), World.cell?_alloc_lt _ _ _ (by simp; omega)]
  refine ⟨by omega, ?_, fun i hi j v hv => ?_, ?_, ?_, ?_, ?_⟩
  · exact ((hL.2.1.trans (hb4.mono (by omega))).alloc (by omega) _).trans (hk.below (by omega) (by omega))
  · rw [hlt _ _ (by omega), hb4.cell (by simp)]; exact hL.regs i hi j v hv
  · rw [hlt _ _ (by omega)]; exact c1
  · rw [hlt _ _ (by omega)]; exact c2
  · rw [hlt _ _ (by omega)]; exact c3
  · rw [h4, hs] at hlog; exact hlog

theorem wrap_small (p : Nat) (h : p ≤ 1048576) : IntKind.u64.wrap (p : Int) = (p : Int) := by
  have : IntKind.u64.wrap (p : Int) = (p : Int) % 18446744073709551616 := by simp [IntKind.wrap, IntKind.bits, IntKind.signed]
  rw [this]; omega

/-- Loop 2: what has been gathered behind k indexes; 'F': full's block, and the heap's size ahead of it. -/
structure Parts (ws : List Bool) (k : Nat) (vR : Value) (w5 wr : World) : Prop where
  full : wr.ownsRow w5.heap.size 3 1 (.slice (some ⟨w5.heap.size, 0, none⟩) (pick true ws k).length ws.length) (pick true ws k).length ((pick true ws k).map (Value.int .i64))
  rest : wr.ownsRow (w5.heap.size + 1) 3 1 vR (pick false ws k).length ((pick false ws k).map (Value.int .i64))
  bel : Below w5.heap.size w5 wr
  size : w5.heap.size + 1 ≤ wr.heap.size

theorem Parts.start (ws : List Bool) (hn : ws.length ≤ 1048576) (w5 : World) : Parts ws 0 (.slice none 0 0) w5 (w5.alloc (.cells (madeCells #[.int .i64 0] ws.length) 3)) :=
  ⟨World.ownsRow_made w5 _ ws.length (Nat.le_refl _) (by unfold maxLen; omega) (by simp [madeCells]), World.ownsRow_nil _ _ _ _, (Below.refl _ _).alloc (Nat.le_refl _) _, by simp⟩

theorem Parts.hit {ws : List Bool} {k : Nat} {vR : Value} {w5 wr w1 : World} {o : Obj} (h : Parts ws k vR w5 wr) (hf : ws.getD k false = true)
    (hown : w1.ownsRow w5.heap.size 3 1 (.slice (some ⟨w5.heap.size, 0, none⟩) ((pick true ws k).length + 1) ws.length) ((pick true ws k).length + 1) ((pick true ws k).map (Value.int .i64) ++ [.int .i64 (k : Int)]))
    (hg : (wr.alloc o).grownBy w1 (some w5.heap.size)) : Parts ws (k + 1) vR w5 w1 := by
  have e1 := pick_hit true ws k hf
  have e2 := pick_miss false ws k (by rw [hf]; decide)
  refine ⟨?_, ?_, (h.bel.alloc (by have := h.size; omega) o).grown hg (by have := h.size; simp; omega) (fun k hk => by cases hk; exact Nat.le_refl _), by have := hg.size; have := h.size; simp at *; omega⟩
  · rw [e1]; simpa using hown
  · rw [e2]
    refine (h.rest.alloc o).kept hg ?_
    cases hb : vR.ownBlock with
    | none => left; rfl
    | some g => right; intro e; have := h.rest.lt g hb; cases e; omega

theorem Parts.miss {ws : List Bool} {k : Nat} {vR vR' : Value} {w5 wr w1 : World} {o : Obj} (h : Parts ws k vR w5 wr) (hf : ws.getD k false = false)
    (hown : w1.ownsRow (w5.heap.size + 1) 3 1 vR' ((pick false ws k).length + 1) ((pick false ws k).map (Value.int .i64) ++ [.int .i64 (k : Int)]))
    (hg : (wr.alloc o).grownBy w1 vR.ownBlock) : Parts ws (k + 1) vR' w5 w1 := by
  have e1 := pick_hit false ws k hf
  have e2 := pick_miss true ws k (by rw [hf]; decide)
  have hlt := h.rest.lt
  refine ⟨?_, ?_, (h.bel.alloc (by have := h.size; omega) o).grown hg (by have := h.size; simp; omega) (fun k hk => by have := hlt k hk; omega), by have := hg.size; have := h.size; simp at *; omega⟩
  · rw [e2]
    refine (h.full.alloc o).kept hg (.inr ?_)
    intro e
    have := hlt w5.heap.size e.symm
    omega
  · rw [e1]; simpa using hown

theorem rest_none {w : World} {base : Nat} {a : Option Addr} {m c : Nat} {xs : List Value} (h : w.ownsRow base 3 1 (.slice a m c) m xs) (ha : a = none) : m = 0 ∧ c = 0 := by
  obtain ⟨_, ⟨h1, h2⟩ | ⟨g, cap, cur, h1, _⟩⟩ := h
  · cases h1; exact ⟨rfl, rfl⟩
  · subst ha; cases h1

theorem rest_cells {w : World} {base : Nat} {a : Option Addr} {m c : Nat} {xs : List Value} (h : w.ownsRow base 3 1 (.slice a m c) m xs) : ∀ ad, a = some ad → ∀ (j : Nat) (u : Value), xs[j]? = some u → w.cell? (ad.add j) = some u := by
  intro ad ha j u hu
  have h' := h
  obtain ⟨_, ⟨h1, h2⟩ | ⟨g, cap, cur, h1, _⟩⟩ := h
  · subst ha; cases h1
  · cases h1
    cases ha
    exact h'.cells rfl j u hu

/-- Behind 'full = append(full, rest...)'. -/
structure Fin (ws : List Bool) (limit : Nat) (w w5 wx : World) : Prop where
  after : After ws limit w wx
  full : wx.ownsRow w5.heap.size 3 1 (.slice (some ⟨w5.heap.size, 0, none⟩) ws.length ws.length) ws.length ((full ws).map (Value.int .i64))

theorem fin_of {ws : List Bool} {limit : Nat} {w w5 wr w1 : World} {vR : Value} (hA : After ws limit w w5) (h : Parts ws ws.length vR w5 wr)
    (hown : w1.ownsRow w5.heap.size 3 1 (.slice (some ⟨w5.heap.size, 0, none⟩) ws.length ws.length) ws.length ((pick true ws ws.length).map (Value.int .i64) ++ (pick false ws ws.length).map (Value.int .i64)))
    (hg : wr.grownBy w1 (some w5.heap.size)) : Fin ws limit w w5 w1 := by
  rw [← List.map_append] at hown
  exact ⟨hA.below (h.bel.grown hg (by have := h.size; omega) (fun k hk => by cases hk; exact Nat.le_refl _)), hown⟩

theorem After.drewN {ws : List Bool} {limit : Nat} {w wx : World} (h : After ws limit w wx) (n : Nat) : After ws limit w (wx.drewN n) :=
  ⟨h.size, below_drewN h.bel n, h.regs, h.mem0, h.mem1, h.lim, h.log⟩

/-- The log and what is wanted hold the same numbers. -/
theorem same_elems {ws : List Bool} {limit m : Nat} {w w5 wx : World} (h : Fin ws limit w w5 wx) (hm : (cutTo limit (full ws)).length = m) :
    ∃ la lc, wx.cell? ⟨w.heap.size + 1 + 1 + 1, 0, none⟩ = some (.slice la m lc) ∧ ∀ k, k < m → ∃ g z, la = some ⟨g, 0, none⟩ ∧ wx.cell? ⟨g, k, none⟩ = some (.int .i64 z) ∧ wx.cell? ⟨w5.heap.size, k, none⟩ = some (.int .i64 z) := by
  obtain ⟨v, h1, _, h3⟩ := h.after.log
  rw [hm] at h3
  have hmn : m ≤ ws.length := by
    rw [← hm, ← full_length ws]; unfold cutTo; split
    · simp; omega
    · exact Nat.le_refl _
  obtain ⟨_, h4⟩ := id h3
  rcases h4 with ⟨rfl, h0⟩ | ⟨g, c, cur, rfl, _⟩
  · subst h0
    exact ⟨none, 0, h1, fun k hk => by omega⟩
  · refine ⟨some ⟨g, 0, none⟩, c, h1, fun k hk => ⟨g, (cutTo limit (full ws)).getD k 0, rfl, ?_, ?_⟩⟩
    · rw [h3.cellAt k (by omega)]
      simp [List.getD, show k < (cutTo limit (full ws)).length by omega]
    · rw [h.full.cellAt k (by omega)]
      have hkf : k < (full ws).length := by rw [full_length]; omega
      have e : (cutTo limit (full ws)).getD k 0 = (full ws).getD k 0 := by
        have hl : k < (cutTo limit (full ws)).length := by omega
        unfold cutTo at hl ⊢
        split
        · rename_i h0
          rw [if_pos h0] at hl
          simp only [List.getD, List.getElem?_take]
          rw [if_pos (by simp at hl; omega)]
        · rfl
      rw [e]
      simp [List.getD, hkf]

set_option maxRecDepth 100000 in
set_option maxHeartbeats 4000000 in
theorem law_core (a : Option Addr) (cap : Nat) (ws : List Bool) (st : Int) (w : World) (hF : Flags w a ws) (hsm : ws.length ≤ 1048576) (hst : (Lit.int .u8 st).wf = true) :
    Calls Yba.prog 3 #[.slice a ws.length cap, .int .u8 st] w fun e w' => e = .returned (.bool true) ∧ Below w.heap.size w w' := by
  have hb := bounds_u8 hst
  clear hst
  have hmk := make_regions ws.length hsm
  have hmk2 := make_full ws.length hsm
  have hgt : ¬ (1048576 : Int) < (ws.length : Int) := by omega
  have HF := show Hid (Flags w a ws) from hF
  clear hF
  obtain ⟨limit, hlim⟩ : ∃ limit : Nat, (limit : Int) = st % ((ws.length : Int) + 2) := ⟨(st % ((ws.length : Int) + 2)).toNat, by have := Int.emod_nonneg st (show (ws.length : Int) + 2 ≠ 0 by omega); omega⟩
  have HLIM := show Hid ((limit : Int) = st % ((ws.length : Int) + 2)) from hlim
  clear hlim
  go_enter Yba.func3, Yba.ntmps3
  go_wp2
  go_loopw [7] (fun i wr => ∃ k : Nat, k ≤ ws.length ∧ i = .int .i64 k ∧ Laid w.heap.size ws k w wr) (fun i _ => ws.length - (intOf i).toNat)
  case atStart => exact ⟨0, Nat.zero_le _, rfl, Laid.start ws w _ (by decide)⟩
  case round =>
    obtain ⟨k, hk, rfl, hL⟩ := hrel
    have HL := show Hid (Laid w.heap.size ws k w wr) from hL
    by_cases hlt : k < ws.length
    · obtain ⟨b, bo, rfl, hbl, hcs⟩ := HF.out (by omega)
      have hcx : wr.cell? ⟨b, bo + k, none⟩ = some (.bool (ws.getD k false)) := by rw [hL.2.1.cell (by exact hbl)]; exact hcs k hlt
      obtain ⟨hc1, hc2⟩ := hL.cells hlt
      generalize hfl : ws.getD k false = fl at *
      have HFL := show Hid (ws.getD k false = fl) from hfl
      have HC1 := show Hid (∀ j, j < (regCells k fl).size → (wr.cell? ⟨w.heap.size, k * 7 + j, none⟩).isSome = true) from hc1
      have HC2 := show Hid (∀ j, j < (regCells k fl).size → wr.frozen? ⟨w.heap.size, k * 7 + j, none⟩ = false) from hc2
      clear hcs hL hc1 hc2 hfl
      go_wp2_with (first | refine wpList_store_cells rfl 26 (.tmp 40) (.tmp 39) rfl w.heap.size (k * 7) (regCells k fl) ?_ ?_ (reg_size k fl) ?_ ?_ (reg_one k fl) ?_)
      · rfl
      · rfl
      · exact HC1.out
      · exact HC2.out
      · go_roundw
        case rel => first | exact ⟨k + 1, by omega, by go_num, HL.out.step fl HFL.out⟩ | ((repeat apply Exists.intro); exact ⟨⟨k + 1, by omega, by go_num, HL.out.step fl HFL.out⟩, rfl⟩)
        case measure => simp [intOf]; omega
    · obtain rfl : k = ws.length := by omega
      have hsz := hL.1
      clear hL
      go_wp2_with (first | (go_at_call 5; refine (newmem_any _ _ _ _).mono ?_; rintro e w' ⟨rfl, rfl⟩) | (go_at_call 6; refine (wfirst_any _ _).mono ?_; rintro e w' ⟨rfl, rfl⟩))
      rw [← HLIM.out]
      obtain ⟨c1, c2, c3, c4, c5, c6, c7⟩ := w4_cells (n := ws.length) (limit := limit) hsz
      refine (seq_any w.heap.size (w.heap.size + 1) (w.heap.size + 1 + 1 + 1) (w.heap.size + 1 + 1) (w.heap.size + 1 + 1 + 1 + 1) limit ws (W4 w.heap.size ws.length limit wr) c6 c2 (fun i hi j v hv => by rw [c7.cell (by simp)]; exact HL.out.regs i hi j v hv) c3 c4 c5 (by omega) (by omega) (by omega) (by omega) (by rw [w4_size]; omega) hsm).mono ?_
      rintro e w5 ⟨rfl, hl5, hk5⟩
      have hA := after_seq HL.out hl5 hk5
      clear hl5 hk5 c1 c2 c3 c4 c5 c6 c7 hmk HL
      have HA := show Hid (After ws limit w w5) from hA
      clear hA
      obtain ⟨i0, hi, hz0, hz1, hz2⟩ := info_parts Yba.info3
      go_wp2
      clear hmk2
      go_loopw [12, 13, 14] (fun vF vR i wr => ∃ k : Nat, ∃ (ra : Option Addr) (rc : Nat), k ≤ ws.length ∧ i = .int .i64 k ∧ vF = .slice (some ⟨w5.heap.size, 0, none⟩) (pick true ws k).length ws.length ∧ vR = .slice ra (pick false ws k).length rc ∧ Parts ws k (.slice ra (pick false ws k).length rc) w5 wr) (fun _ _ i _ => ws.length - (intOf i).toNat)
      case atStart => exact ⟨0, none, 0, Nat.zero_le _, rfl, rfl, rfl, Parts.start ws hsm w5⟩
      case round =>
        obtain ⟨k, ra, rc, hk, rfl, rfl, rfl, hP⟩ := hrel
        have HP := show Hid (Parts ws k (.slice ra (pick false ws k).length rc) w5 wr) from hP
        have hps := pick_sum ws k
        by_cases hlt : k < ws.length
        · obtain ⟨b, bo, rfl, hbl, hcs⟩ := HF.out (by omega)
          have hcx : wr.cell? ⟨b, bo + k, none⟩ = some (.bool (ws.getD k false)) := by
            rw [hP.bel.cell (by have := HA.out.size; simp; omega), HA.out.bel.cell (by exact hbl)]; exact hcs k hlt
          clear hcs hP
          have hsw := HP.out.size
          cases hfl : ws.getD k false
          · rw [hfl] at hcx
            have HFL := show Hid (ws.getD k false = false) from hfl
            clear hfl
            go_wp2_with (at_builtin; refine wpList_append_own _ rfl (.tmp 68) (.tmp 70) 29 rfl (w5.heap.size + 1) 3 i0 (.int .i64 0) 1 8 Yba.underlying29 hi hz0 hz1 hz2 rfl (by decide) _ _ _ rfl (HP.out.rest.alloc _) ⟨wr.heap.size, 0, none⟩ 1 1 [.int .i64 (k : Int)] rfl rfl (cell_one_new _ _ _) ?_ ?_ ?_ ?_ ?_)
            · intro u hu; simp at hu; subst hu; rfl
            · have := pick_le false ws k; unfold maxLen; omega
            · have := pick_le false ws k; omega
            · simp; omega
            · intro v' w1 hown1 hgrow1 _
              obtain ⟨a', c', hform⟩ := owns_form hown1
              subst hform
              have hPm := HP.out.miss HFL.out hown1 hgrow1
              have HPm := show Hid (Parts ws (k + 1) (.slice a' ((pick false ws k).length + 1) c') w5 w1) from hPm
              have he1 : (pick false ws (k + 1)).length = (pick false ws k).length + 1 := by rw [pick_hit false ws k HFL.out]; simp
              have HE1 := show Hid ((pick false ws (k + 1)).length = (pick false ws k).length + 1) from he1
              clear he1
              have HE2 := show Hid (pick true ws (k + 1) = pick true ws k) from pick_miss true ws k (by rw [HFL.out]; decide)
              clear hown1 hgrow1 hPm
              go_wp2
              go_roundw
              case rel => first | exact ⟨k + 1, a', c', by omega, by go_num, by rw [HE2.out], by rw [HE1.out], by rw [HE1.out]; exact HPm.out⟩ | ((repeat apply Exists.intro); exact ⟨⟨k + 1, a', c', by omega, by go_num, by rw [HE2.out], by rw [HE1.out], by rw [HE1.out]; exact HPm.out⟩, rfl⟩)
              case measure => simp [intOf]; omega
          · rw [hfl] at hcx
            have HFL := show Hid (ws.getD k false = true) from hfl
            clear hfl
            go_wp2_with (at_builtin; refine wpList_append_fits _ rfl (.tmp 64) (.tmp 66) 29 rfl w5.heap.size 3 i0 1 Yba.underlying29 hi hz1 w5.heap.size _ ws.length _ rfl (HP.out.full.alloc _) ⟨wr.heap.size, 0, none⟩ 1 1 [.int .i64 (k : Int)] rfl rfl (cell_one_new _ _ _) ?_ ?_ ?_)
            · intro u hu; simp at hu; subst hu; rfl
            · have := pick_le true ws k; omega
            · intro w1 hown1 hgrow1
              have hPm := HP.out.hit HFL.out hown1 hgrow1
              have HPm := show Hid (Parts ws (k + 1) (.slice ra (pick false ws k).length rc) w5 w1) from hPm
              have he1 : (pick true ws (k + 1)).length = (pick true ws k).length + 1 := by rw [pick_hit true ws k HFL.out]; simp
              have HE1 := show Hid ((pick true ws (k + 1)).length = (pick true ws k).length + 1) from he1
              clear he1
              have HE2 := show Hid (pick false ws (k + 1) = pick false ws k) from pick_miss false ws k (by rw [HFL.out]; decide)
              clear hown1 hgrow1 hPm
              go_wp2
              go_roundw
              case rel => first | exact ⟨k + 1, ra, rc, by omega, by go_num, by rw [HE1.out], by rw [HE2.out], by rw [HE2.out]; exact HPm.out⟩ | ((repeat apply Exists.intro); exact ⟨⟨k + 1, ra, rc, by omega, by go_num, by rw [HE1.out], by rw [HE2.out], by rw [HE2.out]; exact HPm.out⟩, rfl⟩)
              case measure => simp [intOf]; omega
        · obtain rfl : k = ws.length := by omega
          clear hP hlt
          go_wp2_with (at_builtin; refine wpList_append_fits_any _ rfl (.tmp 72) (.tmp 73) 29 rfl w5.heap.size 3 i0 1 Yba.underlying29 hi hz1 w5.heap.size _ ws.length _ rfl HP.out.full ra _ rc ((pick false ws ws.length).map (Value.int .i64)) rfl ?_ ?_ ?_ ?_ ?_ ?_)
          · simp
          · exact rest_none HP.out.rest
          · exact rest_cells HP.out.rest
          · intro u hu
            obtain ⟨x, _, rfl⟩ := List.mem_map.1 hu
            rfl
          · omega
          · intro w6 hown6 hgrow6
            have hFin := fin_of HA.out HP.out hown6 hgrow6
            clear hown6 hgrow6 hps HP HA
            obtain ⟨m, hm⟩ : ∃ m, (cutTo limit (full ws)).length = m := ⟨_, rfl⟩
            obtain ⟨la, lc, hlc, hel⟩ := same_elems hFin hm
            have HE := show Hid (∀ k, k < m → ∃ g z, la = some ⟨g, 0, none⟩ ∧ w6.cell? ⟨g, k, none⟩ = some (.int .i64 z) ∧ w6.cell? ⟨w5.heap.size, k, none⟩ = some (.int .i64 z)) from hel
            have hlm := hFin.after.lim
            have c8 := hFin.after.mem0
            have c9 := hFin.after.mem1
            have HFin := show Hid (Fin ws limit w w5 w6) from hFin
            have hml : (0 < limit ∧ limit < ws.length ∧ m = limit) ∨ (¬ (0 < limit ∧ limit < ws.length) ∧ m = ws.length) := by
              have hfl := full_length ws
              unfold cutTo at hm
              split at hm
              · simp at hm; omega
              · omega
            clear hel hFin hm
            rcases hml with ⟨hl0, hln, rfl⟩ | ⟨hln, rfl⟩
            · have d0 : decide ((0 : Int) < (m : Int)) = true := by simp; omega
              go_wp2
              go_loopw [16] (fun i wy => ∃ k : Nat, k ≤ m ∧ i = .int .i64 k ∧ ∃ nq, wy = w6.drewN nq) (fun i _ => m - (intOf i).toNat)
              case atStart => exact ⟨0, Nat.zero_le _, rfl, 0, rfl⟩
              case round =>
                obtain ⟨k, hk, rfl, nq, rfl⟩ := hrel
                by_cases hlt : k < m
                · obtain ⟨g, z, rfl, hz1, hz2⟩ := HE.out k hlt
                  go_wp2
                  go_quiet (fail)
                  go_wp2
                  go_roundw
                  case rel => first | exact ⟨k + 1, by omega, by go_num, _, rfl⟩ | ((repeat apply Exists.intro); exact ⟨⟨k + 1, by omega, by go_num, _, rfl⟩, rfl⟩)
                  case measure => simp [intOf]; omega
                · go_wp2
                  go_loopw [17] (fun i wy => ∃ k : Nat, k ≤ ws.length ∧ i = .int .i64 k ∧ After ws m w wy) (fun i _ => ws.length - (intOf i).toNat)
                  case atStart => exact ⟨0, Nat.zero_le _, rfl, HFin.out.after.drewN _⟩
                  case round =>
                    obtain ⟨p, hp, rfl, hA4⟩ := hrel
                    have HA4 := show Hid (After ws m w wr) from hA4
                    clear c8 c9 hlc hlm
                    have c8 := hA4.mem0
                    have c9 := hA4.mem1
                    by_cases hltp : p < ws.length
                    · obtain ⟨b, bo, rfl, hbl, hcs⟩ := HF.out (by omega)
                      have hcx : wr.cell? ⟨b, bo + p, none⟩ = some (.bool (ws.getD p false)) := by rw [hA4.bel.cell (by exact hbl)]; exact hcs p hltp
                      generalize hfl : ws.getD p false = fl at *
                      have HG := show Hid (∀ (i : Nat) (v : Value), (#[.string ⟨#[114]⟩, .int .u64 p, .int .u64 1, .bool false, .bool fl, .int .u64 0, .int .u64 0] : Array Value)[i]? = some v → wr.cell? ((⟨w.heap.size, p * 7, none⟩ : Addr).add i) = some v) from fun i v hv => by
                        rw [WideShapes.add_plain]; exact hA4.regs p hltp i v (by rw [hfl]; exact hv)
                      have hbw : b < wr.heap.size := by have := hA4.size; omega
                      have hwp := wrap_small p (by omega)
                      clear hcs hA4 hfl
                      cases fl
                      · go_wp2_with (first
                          | refine wpList_load_cells rfl 26 (.tmp 131) rfl ⟨w.heap.size, p * 7, none⟩ rfl #[.string ⟨#[114]⟩, .int .u64 p, .int .u64 1, .bool false, .bool false, .int .u64 0, .int .u64 0] _ HG.out Yba.underlying26 rfl Yba.size26 ?_
                          | refine wpList_store_new rfl 26 (.tmp 18) (.tmp 132) rfl wr 26 _ rfl wr.heap.size rfl #[.string ⟨#[114]⟩, .int .u64 p, .int .u64 1, .bool false, .bool false, .int .u64 0, .int .u64 0] rfl rfl Yba.size26 rfl (by simp [Value.oneCell']) ?_)
                        go_quiet (fail)
                        go_wp2
                        go_roundw
                        case rel => first | exact ⟨p + 1, by omega, by go_num, (HA4.out.below ((Below.refl _ _).alloc (Nat.le_refl _) _)).drewN _⟩ | ((repeat apply Exists.intro); exact ⟨⟨p + 1, by omega, by go_num, (HA4.out.below ((Below.refl _ _).alloc (Nat.le_refl _) _)).drewN _⟩, rfl⟩)
                        case measure => simp [intOf]; omega
                      · go_wp2_with (first
                          | refine wpList_load_cells rfl 26 (.tmp 131) rfl ⟨w.heap.size, p * 7, none⟩ rfl #[.string ⟨#[114]⟩, .int .u64 p, .int .u64 1, .bool false, .bool true, .int .u64 0, .int .u64 0] _ HG.out Yba.underlying26 rfl Yba.size26 ?_
                          | refine wpList_store_new rfl 26 (.tmp 18) (.tmp 132) rfl wr 26 _ rfl wr.heap.size rfl #[.string ⟨#[114]⟩, .int .u64 p, .int .u64 1, .bool false, .bool true, .int .u64 0, .int .u64 0] rfl rfl Yba.size26 rfl (by simp [Value.oneCell']) ?_)
                        go_quiet (fail)
                        go_wp2
                        go_roundw
                        case rel => first | exact ⟨p + 1, by omega, by go_num, (HA4.out.below ((Below.refl _ _).alloc (Nat.le_refl _) _)).drewN _⟩ | ((repeat apply Exists.intro); exact ⟨⟨p + 1, by omega, by go_num, (HA4.out.below ((Below.refl _ _).alloc (Nat.le_refl _) _)).drewN _⟩, rfl⟩)
                        case measure => simp [intOf]; omega
                    · go_wp2
                      go_ret
                      exact ⟨rfl, HA4.out.bel⟩
            · by_cases hl0 : 0 < limit
              · have d0 : decide ((0 : Int) < (limit : Int)) = true := by simp; omega
                have hge : (ws.length : Int) ≤ (limit : Int) := by omega
                have d1 : decide (limit < ws.length) = false := by simp; omega
                clear hln
                go_wp2
                go_loopw [16] (fun i wy => ∃ k : Nat, k ≤ ws.length ∧ i = .int .i64 k ∧ ∃ nq, wy = w6.drewN nq) (fun i _ => ws.length - (intOf i).toNat)
                case atStart => exact ⟨0, Nat.zero_le _, rfl, 0, rfl⟩
                case round =>
                  obtain ⟨k, hk, rfl, nq, rfl⟩ := hrel
                  by_cases hlt : k < ws.length
                  · obtain ⟨g, z, rfl, hz1, hz2⟩ := HE.out k hlt
                    go_wp2
                    go_quiet (fail)
                    go_wp2
                    go_roundw
                    case rel => first | exact ⟨k + 1, by omega, by go_num, _, rfl⟩ | ((repeat apply Exists.intro); exact ⟨⟨k + 1, by omega, by go_num, _, rfl⟩, rfl⟩)
                    case measure => simp [intOf]; omega
                  · go_wp2
                    go_loopw [17] (fun i wy => ∃ k : Nat, k ≤ ws.length ∧ i = .int .i64 k ∧ After ws limit w wy) (fun i _ => ws.length - (intOf i).toNat)
                    case atStart => exact ⟨0, Nat.zero_le _, rfl, HFin.out.after.drewN _⟩
                    case round =>
                      obtain ⟨p, hp, rfl, hA4⟩ := hrel
                      have HA4 := show Hid (After ws limit w wr) from hA4
                      clear c8 c9 hlc hlm
                      have c8 := hA4.mem0
                      have c9 := hA4.mem1
                      by_cases hltp : p < ws.length
                      · obtain ⟨b, bo, rfl, hbl, hcs⟩ := HF.out (by omega)
                        have hcx : wr.cell? ⟨b, bo + p, none⟩ = some (.bool (ws.getD p false)) := by rw [hA4.bel.cell (by exact hbl)]; exact hcs p hltp
                        generalize hfl : ws.getD p false = fl at *
                        have HG := show Hid (∀ (i : Nat) (v : Value), (#[.string ⟨#[114]⟩, .int .u64 p, .int .u64 1, .bool false, .bool fl, .int .u64 0, .int .u64 0] : Array Value)[i]? = some v → wr.cell? ((⟨w.heap.size, p * 7, none⟩ : Addr).add i) = some v) from fun i v hv => by
                          rw [WideShapes.add_plain]; exact hA4.regs p hltp i v (by rw [hfl]; exact hv)
                        have hbw : b < wr.heap.size := by have := hA4.size; omega
                        have hwp := wrap_small p (by omega)
                        clear hcs hA4 hfl
                        cases fl
                        · go_wp2_with (first
                            | refine wpList_load_cells rfl 26 (.tmp 131) rfl ⟨w.heap.size, p * 7, none⟩ rfl #[.string ⟨#[114]⟩, .int .u64 p, .int .u64 1, .bool false, .bool false, .int .u64 0, .int .u64 0] _ HG.out Yba.underlying26 rfl Yba.size26 ?_
                            | refine wpList_store_new rfl 26 (.tmp 18) (.tmp 132) rfl wr 26 _ rfl wr.heap.size rfl #[.string ⟨#[114]⟩, .int .u64 p, .int .u64 1, .bool false, .bool false, .int .u64 0, .int .u64 0] rfl rfl Yba.size26 rfl (by simp [Value.oneCell']) ?_)
                          go_quiet (fail)
                          go_wp2
                          go_roundw
                          case rel => first | exact ⟨p + 1, by omega, by go_num, (HA4.out.below ((Below.refl _ _).alloc (Nat.le_refl _) _)).drewN _⟩ | ((repeat apply Exists.intro); exact ⟨⟨p + 1, by omega, by go_num, (HA4.out.below ((Below.refl _ _).alloc (Nat.le_refl _) _)).drewN _⟩, rfl⟩)
                          case measure => simp [intOf]; omega
                        · go_wp2_with (first
                            | refine wpList_load_cells rfl 26 (.tmp 131) rfl ⟨w.heap.size, p * 7, none⟩ rfl #[.string ⟨#[114]⟩, .int .u64 p, .int .u64 1, .bool false, .bool true, .int .u64 0, .int .u64 0] _ HG.out Yba.underlying26 rfl Yba.size26 ?_
                            | refine wpList_store_new rfl 26 (.tmp 18) (.tmp 132) rfl wr 26 _ rfl wr.heap.size rfl #[.string ⟨#[114]⟩, .int .u64 p, .int .u64 1, .bool false, .bool true, .int .u64 0, .int .u64 0] rfl rfl Yba.size26 rfl (by simp [Value.oneCell']) ?_)
                          go_quiet (fail)
                          go_wp2
                          go_roundw
                          case rel => first | exact ⟨p + 1, by omega, by go_num, (HA4.out.below ((Below.refl _ _).alloc (Nat.le_refl _) _)).drewN _⟩ | ((repeat apply Exists.intro); exact ⟨⟨p + 1, by omega, by go_num, (HA4.out.below ((Below.refl _ _).alloc (Nat.le_refl _) _)).drewN _⟩, rfl⟩)
                          case measure => simp [intOf]; omega
                      · go_wp2
                        go_ret
                        exact ⟨rfl, HA4.out.bel⟩
              · have d0 : decide ((0 : Int) < (limit : Int)) = false := by simp; omega
                go_wp2
                go_loopw [16] (fun i wy => ∃ k : Nat, k ≤ ws.length ∧ i = .int .i64 k ∧ ∃ nq, wy = w6.drewN nq) (fun i _ => ws.length - (intOf i).toNat)
                case atStart => exact ⟨0, Nat.zero_le _, rfl, 0, rfl⟩
                case round =>
                  obtain ⟨k, hk, rfl, nq, rfl⟩ := hrel
                  by_cases hlt : k < ws.length
                  · obtain ⟨g, z, rfl, hz1, hz2⟩ := HE.out k hlt
                    go_wp2
                    go_quiet (fail)
                    go_wp2
                    go_roundw
                    case rel => first | exact ⟨k + 1, by omega, by go_num, _, rfl⟩ | ((repeat apply Exists.intro); exact ⟨⟨k + 1, by omega, by go_num, _, rfl⟩, rfl⟩)
                    case measure => simp [intOf]; omega
                  · go_wp2
                    go_loopw [17] (fun i wy => ∃ k : Nat, k ≤ ws.length ∧ i = .int .i64 k ∧ After ws limit w wy) (fun i _ => ws.length - (intOf i).toNat)
                    case atStart => exact ⟨0, Nat.zero_le _, rfl, HFin.out.after.drewN _⟩
                    case round =>
                      obtain ⟨p, hp, rfl, hA4⟩ := hrel
                      have HA4 := show Hid (After ws limit w wr) from hA4
                      clear c8 c9 hlc hlm
                      have c8 := hA4.mem0
                      have c9 := hA4.mem1
                      by_cases hltp : p < ws.length
                      · obtain ⟨b, bo, rfl, hbl, hcs⟩ := HF.out (by omega)
                        have hcx : wr.cell? ⟨b, bo + p, none⟩ = some (.bool (ws.getD p false)) := by rw [hA4.bel.cell (by exact hbl)]; exact hcs p hltp
                        generalize hfl : ws.getD p false = fl at *
                        have HG := show Hid (∀ (i : Nat) (v : Value), (#[.string ⟨#[114]⟩, .int .u64 p, .int .u64 1, .bool false, .bool fl, .int .u64 0, .int .u64 0] : Array Value)[i]? = some v → wr.cell? ((⟨w.heap.size, p * 7, none⟩ : Addr).add i) = some v) from fun i v hv => by
                          rw [WideShapes.add_plain]; exact hA4.regs p hltp i v (by rw [hfl]; exact hv)
                        have hbw : b < wr.heap.size := by have := hA4.size; omega
                        have hwp := wrap_small p (by omega)
                        clear hcs hA4 hfl
                        cases fl
                        · go_wp2_with (first
                            | refine wpList_load_cells rfl 26 (.tmp 131) rfl ⟨w.heap.size, p * 7, none⟩ rfl #[.string ⟨#[114]⟩, .int .u64 p, .int .u64 1, .bool false, .bool false, .int .u64 0, .int .u64 0] _ HG.out Yba.underlying26 rfl Yba.size26 ?_
                            | refine wpList_store_new rfl 26 (.tmp 18) (.tmp 132) rfl wr 26 _ rfl wr.heap.size rfl #[.string ⟨#[114]⟩, .int .u64 p, .int .u64 1, .bool false, .bool false, .int .u64 0, .int .u64 0] rfl rfl Yba.size26 rfl (by simp [Value.oneCell']) ?_)
                          go_quiet (fail)
                          go_wp2
                          go_roundw
                          case rel => first | exact ⟨p + 1, by omega, by go_num, (HA4.out.below ((Below.refl _ _).alloc (Nat.le_refl _) _)).drewN _⟩ | ((repeat apply Exists.intro); exact ⟨⟨p + 1, by omega, by go_num, (HA4.out.below ((Below.refl _ _).alloc (Nat.le_refl _) _)).drewN _⟩, rfl⟩)
                          case measure => simp [intOf]; omega
                        · go_wp2_with (first
                            | refine wpList_load_cells rfl 26 (.tmp 131) rfl ⟨w.heap.size, p * 7, none⟩ rfl #[.string ⟨#[114]⟩, .int .u64 p, .int .u64 1, .bool false, .bool true, .int .u64 0, .int .u64 0] _ HG.out Yba.underlying26 rfl Yba.size26 ?_
                            | refine wpList_store_new rfl 26 (.tmp 18) (.tmp 132) rfl wr 26 _ rfl wr.heap.size rfl #[.string ⟨#[114]⟩, .int .u64 p, .int .u64 1, .bool false, .bool true, .int .u64 0, .int .u64 0] rfl rfl Yba.size26 rfl (by simp [Value.oneCell']) ?_)
                          go_quiet (fail)
                          go_wp2
                          go_roundw
                          case rel => first | exact ⟨p + 1, by omega, by go_num, (HA4.out.below ((Below.refl _ _).alloc (Nat.le_refl _) _)).drewN _⟩ | ((repeat apply Exists.intro); exact ⟨⟨p + 1, by omega, by go_num, (HA4.out.below ((Below.refl _ _).alloc (Nat.le_refl _) _)).drewN _⟩, rfl⟩)
                          case measure => simp [intOf]; omega
                      · go_wp2
                        go_ret
                        exact ⟨rfl, HA4.out.bel⟩
end Go.Proofs.Ybulkdxxm
