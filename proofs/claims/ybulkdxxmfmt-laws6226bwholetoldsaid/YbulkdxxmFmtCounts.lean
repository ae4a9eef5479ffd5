/-
  offsetCounts.
-/
import Derived.Test.YbulkdxxmFmtAt
import Derived.Deep.DeepCutAuto
namespace Go.Proofs.YbulkdxxmFmt
open Go.RowKit Go.Extern.Stop Go.Stop Go.Extern

theorem cell_heap {W w : World} (h : W.heap = w.heap) (a : Addr) : W.cell? a = w.cell? a := World.cell?_of_block (w := w) (by rw [h])

/-- The number that the bytes from k on spell. -/
def four (big : Bool) (f : List Int) (k : Nat) : Nat := (num4 big (f.getD k 0) (f.getD (k + 1) 0) (f.getD (k + 2) 0) (f.getD (k + 3) 0)).toNat

theorem four_num {big : Bool} {f : List Int} (hf : ∀ i, 0 ≤ f.getD i 0 ∧ f.getD i 0 ≤ 255) (k : Nat) : num4 big (f.getD k 0) (f.getD (k + 1) 0) (f.getD (k + 2) 0) (f.getD (k + 3) 0) = (four big f k : Int) ∧ four big f k < 4294967296 := by
  have h1 := be4_bounds _ _ _ _ (hf k) (hf (k + 1)) (hf (k + 2)) (hf (k + 3))
  have h2 := be4_bounds _ _ _ _ (hf (k + 3)) (hf (k + 2)) (hf (k + 1)) (hf k)
  unfold four num4
  cases big
  · simp only [Bool.false_eq_true, if_false]; omega
  · simp only [if_true]; omega

theorem four_of {f : List Int} (hf : ∀ i, 0 ≤ f.getD i 0 ∧ f.getD i 0 ≤ 255) {b o k : Nat} {w : World} (h : ∀ i, i < 4 → w.cell? ⟨b, o + i, none⟩ = some (.int .u8 (f.getD (k + i) 0))) : Four b o (f.getD k 0) (f.getD (k + 1) 0) (f.getD (k + 2) 0) (f.getD (k + 3) 0) w :=
  ⟨hf _, hf _, hf _, hf _, h 0 (by omega), h 1 (by omega), h 2 (by omega), h 3 (by omega)⟩

/-- 'u32' of the table. -/
theorem t32f (x : Box) (f : List Int) (b o n cp k : Nat) (w : World) (hf : ∀ i, 0 ≤ f.getD i 0 ∧ f.getD i 0 ≤ 255) (hO : w.cell? ⟨x.tb, 2, none⟩ = some (.iface (ordT x.big) (.agg #[]))) (h : ∀ i, i < 4 → w.cell? ⟨b, o + i, none⟩ = some (.int .u8 (f.getD (k + i) 0))) (hn : 4 ≤ n) :
    Calls Ybaf.prog 11 #[.pointer (some ⟨x.tb, 0, none⟩), .slice (some ⟨b, o, none⟩) n cp] w fun e w' => e = .returned (.int .u32 (four x.big f k)) ∧ Below w.heap.size w w' := by
  rw [← (four_num hf k).1]
  exact t32 x.big x.tb b o n cp _ _ _ _ w (four_of hf h) hn hO

/-- 'zzs6226bu32' of the law. -/
theorem zz32f (big : Bool) (f : List Int) (b o n cp k : Nat) (w : World) (hf : ∀ i, 0 ≤ f.getD i 0 ∧ f.getD i 0 ≤ 255) (h : ∀ i, i < 4 → w.cell? ⟨b, o + i, none⟩ = some (.int .u8 (f.getD (k + i) 0))) (hn : 4 ≤ n) :
    Calls Ybaf.prog 7 #[.slice (some ⟨b, o, none⟩) n cp, .bool big] w fun e w' => e = .returned (.int .u32 (four big f k)) ∧ ∃ k, w' = w.drewN k := by
  rw [← (four_num hf k).1]
  exact zz32 big b o n cp _ _ _ _ w (four_of hf h) hn

set_option maxRecDepth 100000 in
set_option maxHeartbeats 1000000 in
theorem oc_any (x : Box) (f : List Int) (c b o k s : Nat) (w : World) (hE : Env x f c w) (hs : x.sz = s) (hs2 : s = 40 ∨ s = 44) (h : ∀ i, i < s → w.cell? ⟨b, o + i, none⟩ = some (.int .u8 (f.getD (k + i) 0))) :
    Calls Ybaf.prog 12 #[.pointer (some ⟨x.tb, 0, none⟩), .slice (some ⟨b, o, none⟩) s s] w
      fun e w' => e = .returned (.tuple #[.int .u64 (four x.big f (k + 28)), .int .u64 (f.getD (k + (s - 1)) 0)]) ∧ Below w.heap.size w w' := by
  have HC := hid (p := ∀ W, W.heap = w.heap → Calls Ybaf.prog 11 #[.pointer (some ⟨x.tb, 0, none⟩), .slice (some ⟨b, o + 28, none⟩) (s - 28) (s - 28)] W
      fun e w' => e = .returned (.int .u32 (four x.big f (k + 28))) ∧ Below W.heap.size W w') fun W hW =>
    t32f x f b (o + 28) (s - 28) (s - 28) (k + 28) W hE.byte (by rw [cell_heap hW]; exact hE.tOrd) (fun i hi => by rw [cell_heap hW, Nat.add_assoc, Nat.add_assoc]; exact h (28 + i) (by omega)) (by omega)
  have hb1 := hE.byte (k + (s - 1))
  have hv := (four_num (big := x.big) hE.byte (k + 28)).2
  have h1 := hE.tLay
  have h2 := hE.lay
  rw [hs] at h2
  have h3 := h (s - 1) (by omega)
  clear h hE hs
  generalize f.getD (k + (s - 1)) 0 = y at *
  generalize four x.big f (k + 28) = v at *
  have hwv := hid (Go.wraps_u64 (v : Int) (by omega) (by omega))
  have hwy := hid (Go.wraps_u64 y (by omega) (by omega))
  generalize x.tb = tb at *
  generalize x.lb = lb at *
  rcases hs2 with rfl | rfl
  · go_enter Ybaf.func12, Ybaf.ntmps12
    go_wp2
    go_region_with (go_at_call 11; refine (HC.out _ ?_).mono ?_; rfl; rintro e w1 ⟨rfl, hb⟩; have q1 := cell_later hb h1; have q2 := cell_later hb h2; have q3 := cell_later hb h3)
    all_goals (try go_wp2)
    all_goals go_ret2
    all_goals exact ⟨ret2 (by first | rfl | exact (show Value.int .u64 (IntKind.u64.wrap v) = _ from by rw [hwv.out])) (show Value.int .u64 (IntKind.u64.wrap y) = _ from by rw [hwy.out]), by first | exact ((Below.refl _ w).drew).trans hb | exact (((Below.refl _ w).drew).trans hb).drew⟩
  · go_enter Ybaf.func12, Ybaf.ntmps12
    go_wp2
    go_region_with (go_at_call 11; refine (HC.out _ ?_).mono ?_; rfl; rintro e w1 ⟨rfl, hb⟩; have q1 := cell_later hb h1; have q2 := cell_later hb h2; have q3 := cell_later hb h3)
    all_goals (try go_wp2)
    all_goals go_ret2
    all_goals exact ⟨ret2 (by first | rfl | exact (show Value.int .u64 (IntKind.u64.wrap v) = _ from by rw [hwv.out])) (show Value.int .u64 (IntKind.u64.wrap y) = _ from by rw [hwy.out]), by first | exact ((Below.refl _ w).drew).trans hb | exact (((Below.refl _ w).drew).trans hb).drew⟩
end Go.Proofs.YbulkdxxmFmt
