/-
  What stands on the road of the law S6230A.
-/
import Derived.Test.YbulkdxzqCopier
import Derived.Test.YbulkdxzqTime
import Derived.Laws.Pointers
import Derived.Lib.Builder
namespace Go.Proofs.Ybulkdxzq
open Go.RowKit

theorem OwnAt.row {w : World} {g : Nat} {a : Option Addr} {len : Nat} {l : List Int} (h : OwnAt w g a len l) : RowAt w a len l := by
  refine ⟨h.1, h.2.1, fun hp => ?_⟩
  cases a with
  | none => exact absurd (h.2.1 rfl) (by omega)
  | some x =>
    obtain ⟨rfl, hr⟩ := h.2.2 x rfl
    exact ⟨g, 0, rfl, hr.lt, fun i hi => by rw [Nat.zero_add]; exact hr.cell hi⟩

theorem RowAt.lt {w : World} {a : Option Addr} {len : Nat} {l : List Int} (h : RowAt w a len l) (hp : 0 < len) (x : Addr) (hx : a = some x) : x.block < w.heap.size := by
  obtain ⟨b, o, rfl, hb, _⟩ := h.2.2 hp
  cases hx
  exact hb

theorem RowAt.grow {w w' : World} {a : Option Addr} {len : Nat} {l : List Int} (h : RowAt w a len l) (hb : Below w.heap.size w w') : RowAt w' a len l := h.below hb (fun hp x hx => h.lt hp x hx)

/-- What stands behind the three copies. -/
structure Three (w w3 : World) (ka da fa kA dA fA : Option Addr) (nk nd fl : Nat) (lk ld lf : List Int) (f : Nat) : Prop where
  key : RowAt w3 ka nk lk
  data : RowAt w3 da nd ld
  free : RowAt w3 fa fl lf
  keyC : RowAt w3 kA nk lk
  dataC : RowAt w3 dA nd ld
  keyL : 0 < nk → ∀ x, ka = some x → x.block < w.heap.size
  dataL : 0 < nd → ∀ x, da = some x → x.block < w.heap.size
  freeL : 0 < fl → ∀ x, fa = some x → x.block < w.heap.size
  keyCL : 0 < nk → ∀ x, kA = some x → x.block < f
  dataCL : 0 < nd → ∀ x, dA = some x → x.block < f
  base : w.heap.size ≤ f
  le : f ≤ w3.heap.size
  own : (fA = none ∧ fl = 0 ∧ lf = []) ∨ (fA = some ⟨f, 0, none⟩ ∧ f < w3.heap.size ∧ Whole w3 f lf ∧ lf.length = fl)
  bel : Below w.heap.size w w3

theorem three {w w1 w2 w3 : World} {ka da fa kA dA fA : Option Addr} {nk nd fl : Nat} {lk ld lf : List Int} (hk : RowAt w ka nk lk) (hd : RowAt w da nd ld) (hf : RowAt w fa fl lf)
    (o1 : OwnAt w1 w.heap.size kA nk lk) (b1 : Below w.heap.size w w1) (o2 : OwnAt w2 w1.heap.size dA nd ld) (b2 : Below w1.heap.size w1 w2) (o3 : OwnAt w3 w2.heap.size fA fl lf) (b3 : Below w2.heap.size w2 w3) :
    Three w w3 ka da fa kA dA fA nk nd fl lk ld lf w2.heap.size := by
  have l1 := b1.size
  have l2 := b2.size
  have l3 := b3.size
  have bb : Below w.heap.size w w3 := b1.trans ((b2.mono l1).trans (b3.mono (by omega)))
  have r1 := o1.row
  have r2 := o2.row
  refine ⟨hk.grow bb, hd.grow bb, hf.grow bb, (r1.grow b2).grow b3, r2.grow b3, fun hp x hx => hk.lt hp x hx, fun hp x hx => hd.lt hp x hx, fun hp x hx => hf.lt hp x hx,
    fun hp x hx => Nat.lt_of_lt_of_le (r1.lt hp x hx) l2, fun hp x hx => r2.lt hp x hx, by omega, l3, ?_, bb⟩
  cases fA with
  | none =>
    have h0 := o3.2.1 rfl
    exact .inl ⟨rfl, h0, List.length_eq_zero_iff.1 (o3.1.trans h0)⟩
  | some x =>
    obtain ⟨rfl, hr⟩ := o3.2.2 x rfl
    exact .inr ⟨rfl, hr.lt, Whole.of_row o3.1 hr, o3.1⟩

/-- The three cells of a Time. -/
def timeF (x y : Int) : Nat → Value := fun i => [.int .u64 x, .int .i64 y, .pointer none].getD i (.bool false)

/-- What stands where copier.clone is called. -/
structure Start (w W : World) (ka da fa kA dA fA : Option Addr) (nk kc nd dc fl : Nat) (lk ld lf : List Int) (off x y : Int) (f cb tb rb : Nat) : Prop where
  key : RowAt W ka nk lk
  data : RowAt W da nd ld
  free : RowAt W fa fl lf
  keyC : RowAt W kA nk lk
  dataC : RowAt W dA nd ld
  keyL : 0 < nk → ∀ x, ka = some x → x.block < w.heap.size
  dataL : 0 < nd → ∀ x, da = some x → x.block < w.heap.size
  freeL : 0 < fl → ∀ x, fa = some x → x.block < w.heap.size
  keyCL : 0 < nk → ∀ x, kA = some x → x.block < f
  dataCL : 0 < nd → ∀ x, dA = some x → x.block < f
  base : w.heap.size ≤ f
  o1 : f ≤ cb
  o2 : cb < tb
  o3 : tb < rb
  o4 : rb < W.heap.size
  own : (fA = none ∧ fl = 0 ∧ lf = []) ∨ (fA = some ⟨f, 0, none⟩ ∧ f < cb ∧ Whole W f lf ∧ lf.length = fl)
  cop : W.rowIs cb 26 1 (fun _ => .slice fA fl fl)
  time : W.rowIs tb 30 3 (timeF x y)
  recd : W.rowIs rb 34 6 (recF (.int .i64 off) (.int .u64 x) (.int .i64 y) (.pointer none) (.slice ka nk kc) (.slice da nd dc))
  bel : Below w.heap.size w W

abbrev StartW (ka da : Option Addr) (nk kc nd dc : Nat) (off x y : Int) (w4 : World) : World :=
  (w4.alloc (.cells #[.int .u64 x, .int .i64 y, .pointer none] 30)).alloc (.cells #[.int .i64 off, .int .u64 x, .int .i64 y, .pointer none, .slice ka nk kc, .slice da nd dc] 34)

theorem start {w w3 w4 : World} {ka da fa kA dA fA : Option Addr} {nk nd fl : Nat} {lk ld lf : List Int} {f : Nat} (kc dc : Nat) (off x y : Int) (h : Three w w3 ka da fa kA dA fA nk nd fl lk ld lf f)
    (b4 : Below (w3.alloc (.cells #[.slice fA fl fl] 26)).heap.size (w3.alloc (.cells #[.slice fA fl fl] 26)) w4) :
    Start w (StartW ka da nk kc nd dc off x y w4) ka da fa kA dA fA nk kc nd dc fl lk ld lf off x y f w3.heap.size w4.heap.size (w4.heap.size + 1) := by
  have s4 : w3.heap.size + 1 ≤ w4.heap.size := by have := b4.size; simpa using this
  have b3 : Below w3.heap.size w3 (StartW ka da nk kc nd dc off x y w4) :=
    ((((Below.refl _ _).alloc (Nat.le_refl _) _).trans (b4.mono (by simp))).alloc (by omega) _).alloc (by simp; omega) _
  have l3 : w.heap.size ≤ w3.heap.size := h.bel.size
  have bb : Below w.heap.size w (StartW ka da nk kc nd dc off x y w4) := h.bel.trans (b3.mono l3)
  have b5 : Below w4.heap.size w4 (StartW ka da nk kc nd dc off x y w4) := ((Below.refl _ _).alloc (Nat.le_refl _) _).alloc (by simp) _
  refine ⟨h.key.grow b3, h.data.grow b3, h.free.grow b3, h.keyC.grow b3, h.dataC.grow b3, h.keyL, h.dataL, h.freeL, h.keyCL, h.dataCL, h.base, h.le, by omega, by omega, by simp, ?_, ?_, ?_, ?_, bb⟩
  · rcases h.own with h0 | ⟨h1, h2, h3, h4⟩
    · exact .inl h0
    · exact .inr ⟨h1, h2, (b3.block f h2).trans h3, h4⟩
  · have hc : (w3.alloc (.cells #[.slice fA fl fl] 26)).rowIs w3.heap.size 26 1 (fun _ => .slice fA fl fl) := World.rowIs_alloc w3 #[.slice fA fl fl] 26 _ (fun i hi => by simp at hi; subst hi; rfl)
    exact hc.of_block ((b5.block _ (by omega)).trans (b4.block _ (by simp)))
  · have ht : (w4.alloc (.cells #[.int .u64 x, .int .i64 y, .pointer none] 30)).rowIs w4.heap.size 30 3 (timeF x y) := World.rowIs_alloc w4 #[.int .u64 x, .int .i64 y, .pointer none] 30 _ (fun i hi => by
      simp at hi
      obtain rfl | rfl | rfl : i = 0 ∨ i = 1 ∨ i = 2 := by omega
      all_goals rfl)
    exact ht.alloc _
  · have := recF_alloc (w4.alloc (.cells #[.int .u64 x, .int .i64 y, .pointer none] 30)) (.int .i64 off) (.int .u64 x) (.int .i64 y) (.pointer none) (.slice ka nk kc) (.slice da nd dc)
    simpa using this

theorem splice_two (l lk ld : List Int) : splice (splice l 0 lk) lk.length ld = lk ++ (ld ++ l.drop (lk.length + ld.length)) := by
  simp only [splice, List.take_zero, List.nil_append, Nat.zero_add]
  rw [List.take_left, ← List.drop_drop, List.drop_left, List.drop_drop]

/-- What stands behind copier.clone, in every case; 'g': the block into which was copied. -/
structure After (w V : World) (ka da fa kA dA k d : Option Addr) (nk nd fl : Nat) (lk ld lf gl : List Int) (off x y : Int) (g tb rb : Nat) : Prop where
  recd : V.rowIs rb 34 6 (recF (.int .i64 off) (.int .u64 x) (.int .i64 y) (.pointer none) (.slice k nk nk) (.slice d nd nd))
  time : V.rowIs tb 30 3 (timeF x y)
  row : Whole V g gl
  fit : nk + nd ≤ gl.length
  kn : k.isNone = ka.isNone
  dn : d.isNone = da.isNone
  ka' : 0 < nk → k = some ⟨g, 0, none⟩
  da' : 0 < nd → d = some ⟨g, nk, none⟩
  key : RowAt V ka nk lk
  data : RowAt V da nd ld
  free : RowAt V fa fl lf
  keyC : RowAt V kA nk lk
  dataC : RowAt V dA nd ld
  keyL : 0 < nk → ∀ x, ka = some x → x.block ≠ g
  dataL : 0 < nd → ∀ x, da = some x → x.block ≠ g
  freeL : 0 < fl → ∀ x, fa = some x → x.block ≠ g
  keyCL : 0 < nk → ∀ x, kA = some x → x.block ≠ g
  dataCL : 0 < nd → ∀ x, dA = some x → x.block ≠ g
  base : w.heap.size ≤ g
  gr : g ≠ rb
  gt : g ≠ tb
  bel : Below w.heap.size w V

theorem after {S : List Nat} {w W V : World} {ka da fa kA dA fA : Option Addr} {nk kc nd dc fl : Nat} {lk ld lf l : List Int} {off x y : Int} {f cb tb rb g : Nat} {k d : Value}
    (h : Start w W ka da fa kA dA fA nk kc nd dc fl lk ld lf off x y f cb tb rb) (hE : Hid ((ka = none → kc = 0) ∧ (da = none → dc = 0)))
    (hS : ∀ j ∈ S, f ≤ j ∧ j ≠ tb) (hg : f ≤ g ∧ g ≠ rb ∧ g ≠ tb) (ck : Cut ka nk kc g 0 k) (cd : Cut da nd dc g nk d)
    (g1 : V.rowIs rb 34 6 (recF (.int .i64 off) (.int .u64 x) (.int .i64 y) (.pointer none) k d)) (g2 : Whole V g (splice (splice l 0 lk) nk ld)) (g3 : OnlyIn S W V) :
    ∃ k' d', k = .slice k' nk nk ∧ d = .slice d' nd nd ∧ After w V ka da fa kA dA k' d' nk nd fl lk ld lf (lk ++ (ld ++ l.drop (nk + nd))) off x y g tb rb := by
  obtain ⟨k', rfl, e1, e2⟩ := ck.to' (fun h0 => ⟨h.key.2.1 h0, hE.out.1 h0⟩)
  obtain ⟨d', rfl, e3, e4⟩ := cd.to' (fun h0 => ⟨h.data.2.1 h0, hE.out.2 h0⟩)
  have n1 := h.key.1
  have n2 := h.data.1
  have q1 := h.base
  have q2 := h.o2
  have q3 := h.o3
  have q4 := h.o4
  have q5 := h.o1
  have hsp : splice (splice l 0 lk) nk ld = lk ++ (ld ++ l.drop (nk + nd)) := by
    rw [← n1, ← n2]
    exact splice_two l lk ld
  rw [hsp] at g2
  have no : ∀ j, j < f → j ∉ S := fun j hj hm => by have := (hS j hm).1; omega
  refine ⟨k', d', rfl, rfl, g1, h.time.of_block (g3.block tb (by omega) (fun hm => (hS tb hm).2 rfl)), g2, by simp; omega, e1, e3, e2, e4,
    h.key.onlyIn g3 (fun hp x hx => no _ (by have := h.keyL hp x hx; omega)), h.data.onlyIn g3 (fun hp x hx => no _ (by have := h.dataL hp x hx; omega)),
    h.free.onlyIn g3 (fun hp x hx => no _ (by have := h.freeL hp x hx; omega)), h.keyC.onlyIn g3 (fun hp x hx => no _ (h.keyCL hp x hx)), h.dataC.onlyIn g3 (fun hp x hx => no _ (h.dataCL hp x hx)),
    fun hp x hx => by have := h.keyL hp x hx; omega, fun hp x hx => by have := h.dataL hp x hx; omega, fun hp x hx => by have := h.freeL hp x hx; omega, fun hp x hx => by have := h.keyCL hp x hx; omega, fun hp x hx => by have := h.dataCL hp x hx; omega,
    by omega, hg.2.1, hg.2.2, h.bel.trans (g3.below (by omega) (fun j hj => by have := (hS j hj).1; omega))⟩

theorem After.drew {w V : World} {ka da fa kA dA k d : Option Addr} {nk nd fl : Nat} {lk ld lf gl : List Int} {off x y : Int} {g tb rb : Nat} (h : After w V ka da fa kA dA k d nk nd fl lk ld lf gl off x y g tb rb) :
    After w V.drew ka da fa kA dA k d nk nd fl lk ld lf gl off x y g tb rb :=
  ⟨h.recd, h.time, h.row, h.fit, h.kn, h.dn, h.ka', h.da', h.key, h.data, h.free, h.keyC, h.dataC, h.keyL, h.dataL, h.freeL, h.keyCL, h.dataCL, h.base, h.gr, h.gt, h.bel.drew⟩

theorem After.drewN {w V : World} {ka da fa kA dA k d : Option Addr} {nk nd fl : Nat} {lk ld lf gl : List Int} {off x y : Int} {g tb rb : Nat} (h : After w V ka da fa kA dA k d nk nd fl lk ld lf gl off x y g tb rb) (q : Nat) :
    After w (V.drewN q) ka da fa kA dA k d nk nd fl lk ld lf gl off x y g tb rb :=
  ⟨h.recd, h.time, h.row, h.fit, h.kn, h.dn, h.ka', h.da', h.key, h.data, h.free, h.keyC, h.dataC, h.keyL, h.dataL, h.freeL, h.keyCL, h.dataCL, h.base, h.gr, h.gt, ⟨h.bel.os, h.bel.tape, h.bel.output, h.bel.size, h.bel.block⟩⟩

theorem Whole.set {w : World} {g : Nat} {l : List Int} (h : Whole w g l) (i : Nat) (v : Int) : Whole (w.setCell ⟨g, i, none⟩ (.int .u8 v)) g (l.set i v) := by
  have hr := h.row.set i (.int .u8 v)
  refine Whole.of_row (n := l.length) (by simp) (hr.congr fun j hj => ?_)
  by_cases e : j = i
  · subst e
    simp [hj]
  · simp [e, List.getElem?_set_ne (Ne.symm e)]

theorem RowAt.setCell {w : World} {a : Option Addr} {n : Nat} {l : List Int} (h : RowAt w a n l) {g : Nat} (hne : 0 < n → ∀ x, a = some x → x.block ≠ g) (i : Nat) (v : Value) : RowAt (w.setCell ⟨g, i, none⟩ v) a n l :=
  h.onlyIn (S := [g]) ((OnlyIn.refl [g] w).setCell (by simp) i v) (fun hp x hx => by simpa using hne hp x hx)

/-- One byte of the copies is turned. -/
theorem After.turn {w V : World} {ka da fa kA dA k d : Option Addr} {nk nd fl : Nat} {lk ld lf gl : List Int} {off x y : Int} {g tb rb : Nat} (h : After w V ka da fa kA dA k d nk nd fl lk ld lf gl off x y g tb rb) (i : Nat) (v : Int) :
    After w (V.setCell ⟨g, i, none⟩ (.int .u8 v)) ka da fa kA dA k d nk nd fl lk ld lf (gl.set i v) off x y g tb rb :=
  ⟨h.recd.setOther (Ne.symm h.gr) _, h.time.setOther (Ne.symm h.gt) _, h.row.set i v, by simpa using h.fit, h.kn, h.dn, h.ka', h.da', h.key.setCell h.keyL _ _, h.data.setCell h.dataL _ _, h.free.setCell h.freeL _ _, h.keyC.setCell h.keyCL _ _, h.dataC.setCell h.dataCL _ _,
    h.keyL, h.dataL, h.freeL, h.keyCL, h.dataCL, h.base, h.gr, h.gt, h.bel.trans (((OnlyIn.refl [g] V).setCell (by simp) i _).below h.bel.size (fun j hj => by simp at hj; subst hj; exact h.base))⟩

theorem After.cell {w V : World} {ka da fa kA dA k d : Option Addr} {nk nd fl : Nat} {lk ld lf gl : List Int} {off x y : Int} {g tb rb : Nat} (h : After w V ka da fa kA dA k d nk nd fl lk ld lf gl off x y g tb rb) {i : Nat} (hi : i < nk + nd) :
    V.cell? ⟨g, i, none⟩ = some (.int .u8 (gl.getD i 0)) := h.row.row.cell (by have := h.fit; omega)

theorem After.keyR {w V : World} {ka da fa kA dA k d : Option Addr} {nk nd fl : Nat} {lk ld lf l : List Int} {off x y : Int} {g tb rb : Nat} (h : After w V ka da fa kA dA k d nk nd fl lk ld lf (lk ++ (ld ++ l)) off x y g tb rb) : RowAt V k nk lk := by
  have n1 := h.key.1
  refine ⟨n1, fun e => ?_, fun hp => ⟨g, 0, h.ka' hp, h.row.row.lt, fun i hi => ?_⟩⟩
  · have := h.kn
    subst e
    cases ka with
    | none => exact h.key.2.1 rfl
    | some y => simp at this
  · rw [Nat.zero_add, h.row.row.cell (i := i) (by simp; omega)]
    simp [List.getD, List.getElem?_append, show i < lk.length by omega]

theorem After.dataR {w V : World} {ka da fa kA dA k d : Option Addr} {nk nd fl : Nat} {lk ld lf l : List Int} {off x y : Int} {g tb rb : Nat} (h : After w V ka da fa kA dA k d nk nd fl lk ld lf (lk ++ (ld ++ l)) off x y g tb rb) : RowAt V d nd ld := by
  have n1 := h.key.1
  have n2 := h.data.1
  refine ⟨n2, fun e => ?_, fun hp => ⟨g, nk, h.da' hp, h.row.row.lt, fun i hi => ?_⟩⟩
  · have := h.dn
    subst e
    cases da with
    | none => exact h.data.2.1 rfl
    | some y => simp at this
  · rw [h.row.row.cell (i := nk + i) (by simp; omega)]
    simp [List.getD, List.getElem?_append, ← n1, show i < ld.length by omega, show ¬ lk.length + i < lk.length by omega]

/-- The copier's own bytes, where they were not touched. -/
theorem Start.freeC {w W V : World} {S : List Nat} {ka da fa kA dA fA : Option Addr} {nk kc nd dc fl : Nat} {lk ld lf : List Int} {off x y : Int} {f cb tb rb : Nat}
    (h : Start w W ka da fa kA dA fA nk kc nd dc fl lk ld lf off x y f cb tb rb) (g3 : OnlyIn S W V) (hS : ∀ j ∈ S, cb ≤ j) : RowAt V fA fl lf := by
  have q := h.o1
  have q2 := h.o2
  have q3 := h.o3
  have q4 := h.o4
  rcases h.own with ⟨rfl, rfl, rfl⟩ | ⟨rfl, hlt, hw, hl⟩
  · exact ⟨rfl, fun _ => rfl, fun h => absurd h (Nat.lt_irrefl _)⟩
  · have hw' : Whole V f lf := (g3.block f (by omega) (fun hm => by have := hS f hm; omega)).trans hw
    refine ⟨hl, (fun h => nomatch h), fun _ => ⟨f, 0, rfl, hw'.row.lt, fun i hi => ?_⟩⟩
    rw [Nat.zero_add]
    exact hw'.row.cell (by omega)

theorem after_apart {w W V : World} {ka da fa kA dA fA : Option Addr} {nk kc nd dc fl : Nat} {lk ld lf : List Int} {off x y : Int} {f cb tb rb : Nat} {k d : Value}
    (h : Start w W ka da fa kA dA fA nk kc nd dc fl lk ld lf off x y f cb tb rb) (hE : Hid ((ka = none → kc = 0) ∧ (da = none → dc = 0)))
    (ck : Cut ka nk kc (W.heap.size + 2) 0 k) (cd : Cut da nd dc (W.heap.size + 2) nk d)
    (g1 : V.rowIs rb 34 6 (recF (.int .i64 off) (.int .u64 x) (.int .i64 y) (.pointer none) k d)) (g2 : Whole V (W.heap.size + 2) (splice (splice (List.replicate (nk + nd) 0) 0 lk) nk ld)) (g3 : OnlyIn [rb] W V) :
    ∃ g k' d' l', k = .slice k' nk nk ∧ d = .slice d' nd nd ∧ After w V ka da fa kA dA k' d' nk nd fl lk ld lf (lk ++ (ld ++ l')) off x y g tb rb ∧
      V.rowIs cb 26 1 (fun _ => .slice fA fl fl) ∧ RowAt V fA fl lf := by
  have q1 := h.o1
  have q2 := h.o2
  have q3 := h.o3
  have q4 := h.o4
  obtain ⟨k', d', e1, e2, ha⟩ := after h hE (S := [rb]) (fun j hj => by simp at hj; omega) (by omega) ck cd g1 g2 g3
  exact ⟨_, k', d', _, e1, e2, ha, h.cop.of_block (g3.block cb (by omega) (by simp; omega)), h.freeC g3 (fun j hj => by simp at hj; omega)⟩

theorem eq_nil {P : Program} {t e : TypeId} (h : P.underlying t = some (.pointer e)) (d : Nat) (w : World) : (Op.equalIn (d + 1) t (.pointer none) (.pointer none)).run P w = .ok true w :=
  run_equalIn_pointer_nil (P := P) w d t none (by simp only [Program.pointee, h])

theorem eq28 (w : World) : (Op.equalIn 9999 28 (.pointer none) (.pointer none)).run Yba.prog w = .ok true w := by
  obtain ⟨d, hd⟩ : ∃ d, 9999 = d + 1 := ⟨9998, rfl⟩
  rw [hd]
  exact eq_nil Yba.underlying28 d w

theorem neq38 (a : Addr) (w : World) : (binOp .neq 38 (.pointer (some a)) (.pointer (some a))).run Yba.prog w = .ok (.bool false) w := by
  obtain ⟨j, hj⟩ : ∃ j, Yba.prog.info? 5 = some j := by
    cases h : Yba.prog.info? 5 with
    | none => have := Yba.size5; simp [h] at this
    | some j => exact ⟨j, rfl⟩
  exact Lib.run_neq_ptr_same (P := Yba.prog) w a Yba.underlying38 hj

theorem RowAt.heap {V W : World} {a : Option Addr} {n : Nat} {l : List Int} (h : RowAt V a n l) (e : W.heap = V.heap) : RowAt W a n l := by
  refine ⟨h.1, h.2.1, fun hp => ?_⟩
  obtain ⟨b, off, rfl, hb, hc⟩ := h.2.2 hp
  exact ⟨b, off, rfl, by rw [e]; exact hb, fun i hi => (World.cell?_of_block (w := V) (by rw [e])).trans (hc i hi)⟩

theorem equal_heap {V : World} {a1 a2 : Option Addr} {len : Nat} {l : List Int} (c1 c2 : Nat) (h1 : RowAt V a1 len l) (h2 : RowAt V a2 len l) :
    Hid (∀ W : World, W.heap = V.heap → Calls Yba.prog 8 #[.slice a1 len c1, .slice a2 len c2] W fun e w' => e = .returned (.bool true) ∧ w' = W) :=
  fun W e => equal_any a1 a2 len c1 c2 l W (h1.heap e) (h2.heap e)

end Go.Proofs.Ybulkdxzq
