/-
  The numbers of four bytes, in both orders.
-/
import Derived.Test.YbulkdxxmFmtRows
import Derived.WalkKit
import Derived.WalkSpells
import Derived.WalkLawsBesides
import Derived.Deep.QuietTactic
import Derived.Deep.RegionWith
import Derived.BigQuiet
import Derived.Laws.BitsLemmas
import Derived.Lib.EndianBits
import Derived.RowKitTokens
namespace Go.Proofs.YbulkdxxmFmt
open Go.RowKit

theorem ret_u32 {a b : Int} (h : a = b) : Ending.returned (.int .u32 a) = .returned (.int .u32 b) := by rw [h]

/-- The number that four bytes spell, the greatest first. -/
def be4 (x0 x1 x2 x3 : Int) : Int := x0 * 16777216 + x1 * 65536 + x2 * 256 + x3

theorem be4_bounds (x0 x1 x2 x3 : Int) (b0 : 0 ≤ x0 ∧ x0 ≤ 255) (b1 : 0 ≤ x1 ∧ x1 ≤ 255) (b2 : 0 ≤ x2 ∧ x2 ≤ 255) (b3 : 0 ≤ x3 ∧ x3 ≤ 255) : 0 ≤ be4 x0 x1 x2 x3 ∧ be4 x0 x1 x2 x3 < 4294967296 := by
  unfold be4; omega

theorem be_val (x0 x1 x2 x3 : Int) (b0 : 0 ≤ x0 ∧ x0 ≤ 255) (b1 : 0 ≤ x1 ∧ x1 ≤ 255) (b2 : 0 ≤ x2 ∧ x2 ≤ 255) (b3 : 0 ≤ x3 ∧ x3 ≤ 255) :
    bits BinOp.or IntKind.u32 (bits BinOp.or IntKind.u32 (bits BinOp.or IntKind.u32 x3 (x2 * 256)) (x1 * 65536)) (x0 * 16777216) = be4 x0 x1 x2 x3 := by
  rw [Go.u32_or8 x3 (x2 * 256) b3.1 (by omega) (by omega) (by omega) (by omega), Go.u32_or16 (x3 + x2 * 256) (x1 * 65536) (by omega) (by omega) (by omega) (by omega) (by omega), Go.u32_or24 (x3 + x2 * 256 + x1 * 65536) (x0 * 16777216) (by omega) (by omega) (by omega) (by omega) (by omega)]
  unfold be4; omega

theorem be_val' (x0 x1 x2 x3 : Int) (b0 : 0 ≤ x0 ∧ x0 ≤ 255) (b1 : 0 ≤ x1 ∧ x1 ≤ 255) (b2 : 0 ≤ x2 ∧ x2 ≤ 255) (b3 : 0 ≤ x3 ∧ x3 ≤ 255) :
    bits BinOp.or IntKind.u32 (bits BinOp.or IntKind.u32 (bits BinOp.or IntKind.u32 (x0 * 16777216) (x1 * 65536)) (x2 * 256)) x3 = be4 x0 x1 x2 x3 := by
  rw [bits_join .u32 32 (by decide) Go.wraps_u32 24 (x0 * 16777216) (x1 * 65536) (by omega) (by omega) (by omega) (by omega) (by omega) (by omega),
    bits_join .u32 32 (by decide) Go.wraps_u32 16 (x0 * 16777216 + x1 * 65536) (x2 * 256) (by omega) (by omega) (by omega) (by omega) (by omega) (by omega),
    bits_join .u32 32 (by decide) Go.wraps_u32 8 (x0 * 16777216 + x1 * 65536 + x2 * 256) x3 (by omega) (by omega) (by omega) (by omega) (by omega) (by omega)]
  rfl

/-- Four bytes in memory. -/
structure Four (b o : Nat) (x0 x1 x2 x3 : Int) (w : World) : Prop where
  b0 : 0 ≤ x0 ∧ x0 ≤ 255
  b1 : 0 ≤ x1 ∧ x1 ≤ 255
  b2 : 0 ≤ x2 ∧ x2 ≤ 255
  b3 : 0 ≤ x3 ∧ x3 ≤ 255
  c0 : w.cell? ⟨b, o, none⟩ = some (.int .u8 x0)
  c1 : w.cell? ⟨b, o + 1, none⟩ = some (.int .u8 x1)
  c2 : w.cell? ⟨b, o + 2, none⟩ = some (.int .u8 x2)
  c3 : w.cell? ⟨b, o + 3, none⟩ = some (.int .u8 x3)

theorem Four.drewN {b o : Nat} {x0 x1 x2 x3 : Int} {w : World} (h : Four b o x0 x1 x2 x3 w) (n : Nat) : Four b o x0 x1 x2 x3 (w.drewN n) := ⟨h.b0, h.b1, h.b2, h.b3, h.c0, h.c1, h.c2, h.c3⟩
theorem Four.below {b o : Nat} {x0 x1 x2 x3 : Int} {w w' : World} {B : Nat} (h : Four b o x0 x1 x2 x3 w) (hB : Below B w w') (hb : b < B) : Four b o x0 x1 x2 x3 w' :=
  ⟨h.b0, h.b1, h.b2, h.b3, by rw [hB.cell (by exact hb)]; exact h.c0, by rw [hB.cell (by exact hb)]; exact h.c1, by rw [hB.cell (by exact hb)]; exact h.c2, by rw [hB.cell (by exact hb)]; exact h.c3⟩

set_option maxHeartbeats 400000 in
theorem be32 (b o n c : Nat) (x0 x1 x2 x3 : Int) (w : World) (h : Four b o x0 x1 x2 x3 w) (hn : 4 ≤ n) :
    Calls Ybaf.prog 16 #[.agg #[], .slice (some ⟨b, o, none⟩) n c] w fun e w' => e = .returned (.int .u32 (be4 x0 x1 x2 x3)) ∧ Below w.heap.size w w' := by
  obtain ⟨b0, b1, b2, b3, c0, c1, c2, c3⟩ := h
  have hlt := World.block_lt_of_cell? _ _ c0
  go_enter Ybaf.func16, Ybaf.ntmps16
  go_wp2
  go_quiet (fail)
  go_wp2
  go_ret
  exact ⟨ret_u32 (be_val x0 x1 x2 x3 b0 b1 b2 b3), below_drewN ((Below.refl _ w).alloc (Nat.le_refl _) _) _⟩

set_option maxHeartbeats 400000 in
theorem le32 (b o n c : Nat) (x0 x1 x2 x3 : Int) (w : World) (h : Four b o x0 x1 x2 x3 w) (hn : 4 ≤ n) :
    Calls Ybaf.prog 17 #[.agg #[], .slice (some ⟨b, o, none⟩) n c] w fun e w' => e = .returned (.int .u32 (be4 x3 x2 x1 x0)) ∧ Below w.heap.size w w' := by
  obtain ⟨b0, b1, b2, b3, c0, c1, c2, c3⟩ := h
  have hlt := World.block_lt_of_cell? _ _ c0
  go_enter Ybaf.func17, Ybaf.ntmps17
  go_wp2
  go_quiet (fail)
  go_wp2
  go_ret
  exact ⟨ret_u32 (be_val x3 x2 x1 x0 b3 b2 b1 b0), below_drewN ((Below.refl _ w).alloc (Nat.le_refl _) _) _⟩

/-- The number of four bytes in the order. -/
def num4 (big : Bool) (x0 x1 x2 x3 : Int) : Int := if big then be4 x0 x1 x2 x3 else be4 x3 x2 x1 x0

set_option maxHeartbeats 400000 in
theorem zz32 (big : Bool) (b o n c : Nat) (x0 x1 x2 x3 : Int) (w : World) (h : Four b o x0 x1 x2 x3 w) (hn : 4 ≤ n) :
    Calls Ybaf.prog 7 #[.slice (some ⟨b, o, none⟩) n c, .bool big] w fun e w' => e = .returned (.int .u32 (num4 big x0 x1 x2 x3)) ∧ ∃ k, w' = w.drewN k := by
  obtain ⟨b0, b1, b2, b3, c0, c1, c2, c3⟩ := h
  have hlt := World.block_lt_of_cell? _ _ c0
  cases big
  · go_enter Ybaf.func7, Ybaf.ntmps7
    go_wp2
    go_quiet (fail)
    go_wp2
    go_ret
    exact ⟨ret_u32 (be_val' x3 x2 x1 x0 b3 b2 b1 b0), _, rfl⟩
  · go_enter Ybaf.func7, Ybaf.ntmps7
    go_wp2
    go_quiet (fail)
    go_wp2
    go_ret
    exact ⟨ret_u32 (be_val' x0 x1 x2 x3 b0 b1 b2 b3), _, rfl⟩

@[go_sem] theorem ord_le (w : World) : (binOp .eql 43 (.iface 45 (.agg #[])) (.iface 46 (.agg #[]))).run Ybaf.prog w = .ok (.bool false) w := by kernel_rfl
@[go_sem] theorem ord_be (w : World) : (binOp .eql 43 (.iface 46 (.agg #[])) (.iface 46 (.agg #[]))).run Ybaf.prog w = .ok (.bool true) w := by kernel_rfl

/-- The byte order's type. -/
def ordT (big : Bool) : TypeId := if big then 46 else 45

set_option maxHeartbeats 400000 in
theorem t32 (big : Bool) (tb b o n c : Nat) (x0 x1 x2 x3 : Int) (w : World) (h : Four b o x0 x1 x2 x3 w) (hn : 4 ≤ n) (ht : w.cell? ⟨tb, 2, none⟩ = some (.iface (ordT big) (.agg #[]))) :
    Calls Ybaf.prog 11 #[.pointer (some ⟨tb, 0, none⟩), .slice (some ⟨b, o, none⟩) n c] w fun e w' => e = .returned (.int .u32 (num4 big x0 x1 x2 x3)) ∧ Below w.heap.size w w' := by
  cases big
  · have ht' : w.cell? ⟨tb, 2, none⟩ = some (.iface 45 (.agg #[])) := ht
    clear ht
    go_enter Ybaf.func11, Ybaf.ntmps11
    go_wp2
    go_quiet (fail)
    go_wp2_with (go_at_call 17; refine (le32 b o n c x0 x1 x2 x3 _ (h.drewN _) hn).mono ?_; rintro e w' ⟨rfl, hb⟩)
    all_goals (try go_wp2)
    go_ret
    exact ⟨rfl, (below_drewN (Below.refl _ w) _).trans hb⟩
  · have ht' : w.cell? ⟨tb, 2, none⟩ = some (.iface 46 (.agg #[])) := ht
    clear ht
    go_enter Ybaf.func11, Ybaf.ntmps11
    go_wp2
    go_quiet (fail)
    go_wp2_with (go_at_call 16; refine (be32 b o n c x0 x1 x2 x3 _ (h.drewN _) hn).mono ?_; rintro e w' ⟨rfl, hb⟩)
    all_goals (try go_wp2)
    go_ret
    exact ⟨rfl, (below_drewN (Below.refl _ w) _).trans hb⟩
end Go.Proofs.YbulkdxxmFmt
