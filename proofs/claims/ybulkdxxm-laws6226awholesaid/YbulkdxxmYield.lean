import Derived.Test.YbulkdxxmKit
namespace Go.Proofs.Ybulkdxxm
open Go.RowKit

/-- The log: the variable at block 'L' holds a slice that owns the cells xs. -/
def LogIs (base L : Nat) (xs : List Int) (w : World) : Prop :=
  ∃ v, w.cell? ⟨L, 0, none⟩ = some v ∧ w.frozen? ⟨L, 0, none⟩ = false ∧ w.ownsRow base 3 1 v xs.length (xs.map (Value.int .i64))

theorem owns_form {w : World} {base : Nat} {v : Value} {n : Nat} {xs : List Value} (h : w.ownsRow base 3 1 v n xs) : ∃ a c, v = .slice a n c := by
  obtain ⟨_, h | ⟨g, cap, cur, h, _⟩⟩ := h
  · exact ⟨none, 0, by rw [h.1, h.2]⟩
  · exact ⟨_, _, h⟩

/-- Behind the append, ahead of the store. -/
theorem grown_kept {base L : Nat} {v : Value} {xs : List Value} {n : Nat} {w w1 : World} {o : Obj} (hown : w.ownsRow base 3 1 v n xs) (hg : (w.alloc o).grownBy w1 v.ownBlock) (hbw : base ≤ w.heap.size) : Kept base L w w1 := by
  have hlt := hown.lt
  refine ⟨hg.os, hg.tape, hg.output, by have := hg.size; simp at this; omega, fun k hk _ => ?_⟩
  rw [hg.block k (by simp; omega) (fun e => by have := hlt k e.symm; omega)]
  exact Below.heap_alloc _ _ _ (by omega)

theorem log_stored {base L : Nat} {xs : List Int} {i : Int} {a : Option Addr} {c : Nat} {w w1 : World} (hk : Kept base L w w1) (hv : ∃ u, w1.cell? ⟨L, 0, none⟩ = some u) (hfz : w1.frozen? ⟨L, 0, none⟩ = false) (hLb : L < base)
    (hown : w1.ownsRow base 3 1 (.slice a (xs.length + 1) c) (xs.length + 1) (xs.map (Value.int .i64) ++ [.int .i64 i])) :
    LogIs base L (xs ++ [i]) (w1.setCell ⟨L, 0, none⟩ (.slice a (xs.length + 1) c)) ∧ Kept base L w (w1.setCell ⟨L, 0, none⟩ (.slice a (xs.length + 1) c)) := by
  obtain ⟨u, hu⟩ := hv
  refine ⟨⟨_, World.cell?_setCell_same _ _ _ hu, by rw [World.frozen?_setCell]; exact hfz, ?_⟩, hk.setCell _ _⟩
  have := ownsRow_setCell_below hown (a := ⟨L, 0, none⟩) hLb (.slice a (xs.length + 1) c)
  simpa using this

set_option maxHeartbeats 400000 in
theorem yield_any (base L M : Nat) (limit : Nat) (i : Int) (xs : List Int) (w : World) (hlog : LogIs base L xs w) (hlim : w.cell? ⟨M, 0, none⟩ = some (.int .i64 limit))
    (hLM : M ≠ L) (hLb : L < base) (hMb : M < base) (hbw : base ≤ w.heap.size) (hlen : xs.length ≤ 4194304) :
    Calls Yba.prog 7 #[.int .i64 i, .pointer (some ⟨L, 0, none⟩), .pointer (some ⟨M, 0, none⟩)] w fun e w' =>
      e = .returned (.bool (!(decide (0 < limit) && decide (xs.length + 1 = limit)))) ∧ LogIs base L (xs ++ [i]) w' ∧ Kept base L w w' := by
  obtain ⟨v, hv, hfz, hown⟩ := hlog
  obtain ⟨sa, sc, hform⟩ := owns_form hown
  subst hform
  obtain ⟨i0, hi, hz0, hz1, hz2⟩ := info_parts Yba.info3
  go_enter Yba.func7, Yba.ntmps7
  go_wp2_with (at_builtin; refine wpList_append_own _ rfl (.tmp 5) (.tmp 7) 29 rfl base 3 i0 (.int .i64 0) 1 8 Yba.underlying29 hi hz0 hz1 hz2 rfl (by decide) _ _ _ rfl (hown.alloc _) ⟨w.heap.size, 0, none⟩ 1 1 [.int .i64 i] rfl rfl (cell_one_new _ _ _) ?_ ?_ ?_ ?_ ?_)
  · intro u hu; simp at hu; subst hu; rfl
  · unfold maxLen; omega
  · omega
  · simp; omega
  · intro v' w1 hown' hgrow _
    obtain ⟨a', c', hform⟩ := owns_form hown'
    subst hform
    have hK := grown_kept (L := L) hown hgrow hbw
    have hgb : w1.heap[L]? = w.heap[L]? := by
      rw [hgrow.block L (by simp; omega) (fun e => by have := hown.lt L e.symm; omega)]
      exact Below.heap_alloc _ _ _ (by omega)
    have c1 : w1.cell? ⟨L, 0, none⟩ = some (.slice sa xs.length sc) := by rw [World.cell?_of_block (w := w) hgb]; exact hv
    have f1 : w1.frozen? ⟨L, 0, none⟩ = false := by rw [World.frozen?_of_block (w := w) hgb]; exact hfz
    have m1 : w1.cell? ⟨M, 0, none⟩ = some (.int .i64 limit) := by rw [hK.cell (by exact hMb) (by exact hLM)]; exact hlim
    have m2 : ∀ x, (w1.setCell ⟨L, 0, none⟩ x).cell? ⟨M, 0, none⟩ = some (.int .i64 limit) := fun x => by rw [World.cell?_setCell_other _ _ _ _ (by intro e; cases e; exact hLM rfl)]; exact m1
    have HE := log_stored hK ⟨_, c1⟩ f1 hLb hown'
    have HE2 := show Hid (LogIs base L (xs ++ [i]) (w1.setCell ⟨L, 0, none⟩ (.slice a' (xs.length + 1) c')) ∧ Kept base L w (w1.setCell ⟨L, 0, none⟩ (.slice a' (xs.length + 1) c'))) from HE
    clear HE hown' hgrow hown hv hfz hlim hK hgb
    by_cases h0 : 0 < limit
    · have d0 : decide ((0 : Int) < (limit : Int)) = true := by simp; omega
      by_cases h1 : xs.length + 1 = limit
      · have d1 : (((xs.length : Int) + 1) == (limit : Int)) = true := by simp; omega
        have H1 := show Hid (xs.length + 1 = limit) from h1
        clear h1
        go_wp2
        go_ret
        exact ⟨by simp [h0, H1.out], HE2.out⟩
      · have d1 : (((xs.length : Int) + 1) == (limit : Int)) = false := by simp; omega
        go_wp2
        go_ret
        exact ⟨by simp [h1], HE2.out⟩
    · have d0 : decide ((0 : Int) < (limit : Int)) = false := by simp; omega
      go_wp2
      go_ret
      exact ⟨by simp [h0], HE2.out⟩
end Go.Proofs.Ybulkdxxm
