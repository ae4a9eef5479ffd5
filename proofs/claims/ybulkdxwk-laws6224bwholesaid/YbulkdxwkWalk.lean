import Derived.Test.YbulkdxwkRows
import Derived.Test.YbulkdxwkFloat
import Derived.WalkKit
import Derived.WalkSpells
import Derived.WalkLawsBesides
import Derived.Deep.QuietTactic
import Derived.Deep.RegionWith
import Derived.BigQuiet
import Derived.Laws.BitsLemmas
import Derived.Laws.FloatArith
import Derived.Lib.EndianBits
namespace Go.Proofs.Ybulkdxwk
open Go.RowKit

/-- A float goes into a cell as every value of one cell does. -/
theorem run_store_float {P : Program} {w : World} {a : Addr} {m : Mode} (k : FloatKind) (x : Nat) : (store a (.float k x) m).run P w = stored P w a (.float k x) m := run_store P w a _ m rfl
attribute [local go_sem] run_store_float

theorem ret_u32 {a b : Int} (h : a = b) : Ending.returned (.int .u32 a) = .returned (.int .u32 b) := by rw [h]

/-- The number that four bytes spell, the greatest first; its lowest 31 bits. -/
def be4 (x0 x1 x2 x3 : Int) : Int := x0 * 16777216 + x1 * 65536 + x2 * 256 + x3
def low31 (x0 x1 x2 x3 : Int) : Int := (x0 % 128) * 16777216 + x1 * 65536 + x2 * 256 + x3

theorem be_val (x0 x1 x2 x3 : Int) (b0 : 0 ≤ x0 ∧ x0 ≤ 255) (b1 : 0 ≤ x1 ∧ x1 ≤ 255) (b2 : 0 ≤ x2 ∧ x2 ≤ 255) (b3 : 0 ≤ x3 ∧ x3 ≤ 255) :
    bits BinOp.or IntKind.u32 (bits BinOp.or IntKind.u32 (bits BinOp.or IntKind.u32 x3 (x2 * 256)) (x1 * 65536)) (x0 * 16777216) = be4 x0 x1 x2 x3 := by
  rw [Go.u32_or8 x3 (x2 * 256) b3.1 (by omega) (by omega) (by omega) (by omega), Go.u32_or16 (x3 + x2 * 256) (x1 * 65536) (by omega) (by omega) (by omega) (by omega) (by omega), Go.u32_or24 (x3 + x2 * 256 + x1 * 65536) (x0 * 16777216) (by omega) (by omega) (by omega) (by omega) (by omega)]
  unfold be4; omega

theorem mask31 (x : Int) (h0 : 0 ≤ x) (h1 : x < 4294967296) : bits BinOp.and IntKind.u32 x 2147483647 = x % 2147483648 :=
  bits_mask .u32 32 (by decide) Go.wraps_u32 31 (by decide) x h0 h1

theorem be_low (x0 x1 x2 x3 : Int) (b0 : 0 ≤ x0 ∧ x0 ≤ 255) (b1 : 0 ≤ x1 ∧ x1 ≤ 255) (b2 : 0 ≤ x2 ∧ x2 ≤ 255) (b3 : 0 ≤ x3 ∧ x3 ≤ 255) :
    bits BinOp.and IntKind.u32 (be4 x0 x1 x2 x3) 2147483647 = low31 x0 x1 x2 x3 := by
  have h0 : 0 ≤ be4 x0 x1 x2 x3 := by unfold be4; omega
  have h1 : be4 x0 x1 x2 x3 < 4294967296 := by unfold be4; omega
  rw [mask31 _ h0 h1]
  unfold be4 low31; omega

theorem model_val (x0 x1 x2 x3 : Int) (b0 : 0 ≤ x0 ∧ x0 ≤ 255) (b1 : 0 ≤ x1 ∧ x1 ≤ 255) (b2 : 0 ≤ x2 ∧ x2 ≤ 255) (b3 : 0 ≤ x3 ∧ x3 ≤ 255) :
    bits BinOp.or IntKind.u32 (bits BinOp.or IntKind.u32 (bits BinOp.or IntKind.u32 (bits BinOp.and IntKind.u8 x0 127 % 4294967296 * 16777216 % 4294967296) (x1 * 65536)) (x2 * 256)) x3 = low31 x0 x1 x2 x3 := by
  have hm : bits BinOp.and IntKind.u8 x0 127 = x0 % 128 := bits_mask .u8 8 (by decide) wraps_u8 7 (by decide) x0 b0.1 (by omega)
  rw [hm, show x0 % 128 % 4294967296 * 16777216 % 4294967296 = x0 % 128 * 16777216 by omega]
  rw [bits_join .u32 32 (by decide) Go.wraps_u32 24 (x0 % 128 * 16777216) (x1 * 65536) (by omega) (by omega) (by omega) (by omega) (by omega) (by omega),
    bits_join .u32 32 (by decide) Go.wraps_u32 16 (x0 % 128 * 16777216 + x1 * 65536) (x2 * 256) (by omega) (by omega) (by omega) (by omega) (by omega) (by omega),
    bits_join .u32 32 (by decide) Go.wraps_u32 8 (x0 % 128 * 16777216 + x1 * 65536 + x2 * 256) x3 (by omega) (by omega) (by omega) (by omega) (by omega) (by omega)]
  rfl

theorem low31_bounds (x0 x1 x2 x3 : Int) (b1 : 0 ≤ x1 ∧ x1 ≤ 255) (b2 : 0 ≤ x2 ∧ x2 ≤ 255) (b3 : 0 ≤ x3 ∧ x3 ≤ 255) : 0 ≤ low31 x0 x1 x2 x3 ∧ low31 x0 x1 x2 x3 < 2147483648 := by
  unfold low31; omega

set_option maxHeartbeats 400000 in
theorem u32_any (b o c : Nat) (x0 x1 x2 x3 : Int) (w : World) (b0 : 0 ≤ x0 ∧ x0 ≤ 255) (b1 : 0 ≤ x1 ∧ x1 ≤ 255) (b2 : 0 ≤ x2 ∧ x2 ≤ 255) (b3 : 0 ≤ x3 ∧ x3 ≤ 255)
    (c0 : w.cell? ⟨b, o, none⟩ = some (.int .u8 x0)) (c1 : w.cell? ⟨b, o + 1, none⟩ = some (.int .u8 x1)) (c2 : w.cell? ⟨b, o + 2, none⟩ = some (.int .u8 x2)) (c3 : w.cell? ⟨b, o + 3, none⟩ = some (.int .u8 x3)) :
    Calls Yba.prog 6 #[.agg #[], .slice (some ⟨b, o, none⟩) 4 c] w fun e w' => e = .returned (.int .u32 (be4 x0 x1 x2 x3)) ∧ ∃ n, w' = (w.alloc (.cells #[] 33)).drewN n := by
  have hlt := World.block_lt_of_cell? _ _ c0
  go_enter Yba.func6, Yba.ntmps6
  go_wp2
  go_quiet (fail)
  go_wp2
  go_ret
  exact ⟨ret_u32 (be_val x0 x1 x2 x3 b0 b1 b2 b3), _, rfl⟩

/-- 'x * y' on floats: what the run gives, in whatever world. -/
theorem mul_run (P : Program) (q y : Nat) (W : World) : ∃ (r : Nat) (n : Nat), (binOp .mul 22 (.float .f64 q) (.float .f64 y)).run P W = .ok (.float .f64 r) (W.drewN n) ∧
    (Ieee.double.mul q y = some r ∨ (Ieee.double.mul q y = none ∧ ∃ t : Nat, r = (t % 2) * 2 ^ 63 + 0x7ff0000000000000 + 1 + (t / 2) % (2 ^ 52 - 1))) := by
  cases h : Ieee.double.mul q y with
  | some r => exact ⟨r, 0, run_float_arith W .mul 22 .f64 q y r h, .inl rfl⟩
  | none =>
    refine ⟨_, 1, ?_, .inr ⟨rfl, W.tape W.drawn (.nanBits .f64 q y), rfl⟩⟩
    have h' : FloatKind.f64.format.mul q y = none := h
    simp [binOp, Op.floatArith, h', Question.forced, Question.cut, World.drewN]

theorem of_small (v : Int) (h0 : 0 ≤ v) : floatOfInt .f64 v = Ieee.double.nearest false v.toNat 0 := by
  unfold floatOfInt
  show Ieee.double.nearest _ _ _ = _
  rw [show decide (v < 0) = false by simp; omega, show v.natAbs = v.toNat by omega]

/-- The two comparisons are one. -/
theorem both (P : Program) (v : Int) (h0 : 0 ≤ v) (h1 : v < 2147483648) (q : Nat) : ∃ (d : Nat) (lb : Bool), (∀ W : World, (binOp .quo 22 (.float .f64 (floatOfInt .f64 v)) (.float .f64 4746794007248502784)).run P W = .ok (.float .f64 d) W) ∧
    (FloatKind.f64.format.order d q == some Ordering.lt) = lb ∧
    (∀ W : World, ∃ r n, (binOp .mul 22 (.float .f64 q) (.float .f64 4746794007248502784)).run P W = .ok (.float .f64 r) (W.drewN n) ∧ (FloatKind.f64.format.order (floatOfInt .f64 v) r == some Ordering.lt) = lb) := by
  obtain ⟨d, hd, hs, hn⟩ := scale_law v.toNat (by omega) q
  refine ⟨d, _, fun W => run_float_arith W .quo 22 .f64 _ _ d ?_, rfl, fun W => ?_⟩
  · rw [of_small v h0]; exact hd
  · obtain ⟨r, n, hr, h⟩ := mul_run P q 4746794007248502784 W
    refine ⟨r, n, hr, ?_⟩
    rw [of_small v h0]
    rcases h with h | ⟨h, t, rfl⟩
    · exact hs r h
    · exact (nan_drawn _ t).trans (hn h).symm

set_option maxHeartbeats 400000 in
theorem model_zero (rc mm : Int) (qb : Nat) (s0 s1 s2 s3 s4 s5 s6 s7 s8 s9 s10 s11 s12 s13 s14 s15 s16 s17 s18 s19 : Int) (w : World) :
    Calls Yba.prog 5 #[.int .i64 rc, .float .f64 qb, .int .i64 mm, .agg #[.int .u8 s0, .int .u8 s1, .int .u8 s2, .int .u8 s3, .int .u8 s4, .int .u8 s5, .int .u8 s6, .int .u8 s7, .int .u8 s8, .int .u8 s9, .int .u8 s10, .int .u8 s11, .int .u8 s12, .int .u8 s13, .int .u8 s14, .int .u8 s15, .int .u8 s16, .int .u8 s17, .int .u8 s18, .int .u8 s19], .int .i64 0] w fun e w' => e = .returned (.int .i64 rc) ∧ w' = w.alloc (.cells #[.int .u8 s0, .int .u8 s1, .int .u8 s2, .int .u8 s3, .int .u8 s4, .int .u8 s5, .int .u8 s6, .int .u8 s7, .int .u8 s8, .int .u8 s9, .int .u8 s10, .int .u8 s11, .int .u8 s12, .int .u8 s13, .int .u8 s14, .int .u8 s15, .int .u8 s16, .int .u8 s17, .int .u8 s18, .int .u8 s19] 24) := by
  go_enter Yba.func5, Yba.ntmps5
  go_wp2
  go_ret
  exact ⟨rfl, rfl⟩

set_option maxHeartbeats 400000 in
theorem model_any (rc mm h : Int) (qb : Nat) (s0 s1 s2 s3 s4 s5 s6 s7 s8 s9 s10 s11 s12 s13 s14 s15 s16 s17 s18 s19 : Int) (w : World) (hh : (h == 0) = false) (b16 : 0 ≤ s16 ∧ s16 ≤ 255) (b17 : 0 ≤ s17 ∧ s17 ≤ 255) (b18 : 0 ≤ s18 ∧ s18 ≤ 255) (b19 : 0 ≤ s19 ∧ s19 ≤ 255) (lb : Bool)
    (hm : ∃ r n, (binOp .mul 22 (.float .f64 qb) (.float .f64 4746794007248502784)).run Yba.prog (w.alloc (.cells #[.int .u8 s0, .int .u8 s1, .int .u8 s2, .int .u8 s3, .int .u8 s4, .int .u8 s5, .int .u8 s6, .int .u8 s7, .int .u8 s8, .int .u8 s9, .int .u8 s10, .int .u8 s11, .int .u8 s12, .int .u8 s13, .int .u8 s14, .int .u8 s15, .int .u8 s16, .int .u8 s17, .int .u8 s18, .int .u8 s19] 24)) = .ok (.float .f64 r) ((w.alloc (.cells #[.int .u8 s0, .int .u8 s1, .int .u8 s2, .int .u8 s3, .int .u8 s4, .int .u8 s5, .int .u8 s6, .int .u8 s7, .int .u8 s8, .int .u8 s9, .int .u8 s10, .int .u8 s11, .int .u8 s12, .int .u8 s13, .int .u8 s14, .int .u8 s15, .int .u8 s16, .int .u8 s17, .int .u8 s18, .int .u8 s19] 24)).drewN n) ∧ (FloatKind.f64.format.order (floatOfInt .f64 (low31 s16 s17 s18 s19)) r == some Ordering.lt) = lb) :
    Calls Yba.prog 5 #[.int .i64 rc, .float .f64 qb, .int .i64 mm, .agg #[.int .u8 s0, .int .u8 s1, .int .u8 s2, .int .u8 s3, .int .u8 s4, .int .u8 s5, .int .u8 s6, .int .u8 s7, .int .u8 s8, .int .u8 s9, .int .u8 s10, .int .u8 s11, .int .u8 s12, .int .u8 s13, .int .u8 s14, .int .u8 s15, .int .u8 s16, .int .u8 s17, .int .u8 s18, .int .u8 s19], .int .i64 h] w fun e w' => e = .returned (.int .i64 (if lb then mm else 0)) ∧ ∃ n, w' = (w.alloc (.cells #[.int .u8 s0, .int .u8 s1, .int .u8 s2, .int .u8 s3, .int .u8 s4, .int .u8 s5, .int .u8 s6, .int .u8 s7, .int .u8 s8, .int .u8 s9, .int .u8 s10, .int .u8 s11, .int .u8 s12, .int .u8 s13, .int .u8 s14, .int .u8 s15, .int .u8 s16, .int .u8 s17, .int .u8 s18, .int .u8 s19] 24)).drewN n := by
  obtain ⟨r, n, hr, hlb⟩ := hm
  have HV := show Hid (bits BinOp.or IntKind.u32 (bits BinOp.or IntKind.u32 (bits BinOp.or IntKind.u32 (bits BinOp.and IntKind.u8 s16 127 % 4294967296 * 16777216 % 4294967296) (s17 * 65536)) (s18 * 256)) s19 = low31 s16 s17 s18 s19) from model_val s16 s17 s18 s19 b16 b17 b18 b19
  have HR := show Hid ((binOp .mul 22 (.float .f64 qb) (.float .f64 4746794007248502784)).run Yba.prog (w.alloc (.cells #[.int .u8 s0, .int .u8 s1, .int .u8 s2, .int .u8 s3, .int .u8 s4, .int .u8 s5, .int .u8 s6, .int .u8 s7, .int .u8 s8, .int .u8 s9, .int .u8 s10, .int .u8 s11, .int .u8 s12, .int .u8 s13, .int .u8 s14, .int .u8 s15, .int .u8 s16, .int .u8 s17, .int .u8 s18, .int .u8 s19] 24)) = .ok (.float .f64 r) ((w.alloc (.cells #[.int .u8 s0, .int .u8 s1, .int .u8 s2, .int .u8 s3, .int .u8 s4, .int .u8 s5, .int .u8 s6, .int .u8 s7, .int .u8 s8, .int .u8 s9, .int .u8 s10, .int .u8 s11, .int .u8 s12, .int .u8 s13, .int .u8 s14, .int .u8 s15, .int .u8 s16, .int .u8 s17, .int .u8 s18, .int .u8 s19] 24)).drewN n)) from hr
  clear hr
  generalize low31 s16 s17 s18 s19 = V at *
  cases lb
  all_goals
    go_enter Yba.func5, Yba.ntmps5
    go_wp2
    rw [HV.out, HR.out]
    go_wp2
    go_ret
    exact ⟨rfl, _, rfl⟩

set_option maxHeartbeats 400000 in
theorem num_zero (rc mm : Int) (sd : Int) (qb : Nat) (s0 s1 s2 s3 s4 s5 s6 s7 s8 s9 s10 s11 s12 s13 s14 s15 s16 s17 s18 s19 : Int) (w : World) :
    Calls Yba.prog 4 #[.agg #[.int .i64 rc, .float .f64 qb, .int .i64 mm, .int .u32 sd], .agg #[.int .u8 s0, .int .u8 s1, .int .u8 s2, .int .u8 s3, .int .u8 s4, .int .u8 s5, .int .u8 s6, .int .u8 s7, .int .u8 s8, .int .u8 s9, .int .u8 s10, .int .u8 s11, .int .u8 s12, .int .u8 s13, .int .u8 s14, .int .u8 s15, .int .u8 s16, .int .u8 s17, .int .u8 s18, .int .u8 s19, .int .i64 0]] w fun e w' => e = .returned (.int .i64 rc) ∧ Below w.heap.size w w' := by
  go_enter Yba.func4, Yba.ntmps4
  go_wp2
  go_ret
  exact ⟨rfl, ((Below.refl _ _).alloc (Nat.le_refl _) _).alloc (by simp) _⟩

set_option maxHeartbeats 400000 in
theorem num_any (rc mm h sd : Int) (qb d : Nat) (s0 s1 s2 s3 s4 s5 s6 s7 s8 s9 s10 s11 s12 s13 s14 s15 s16 s17 s18 s19 : Int) (w : World) (hh : (h == 0) = false) (b16 : 0 ≤ s16 ∧ s16 ≤ 255) (b17 : 0 ≤ s17 ∧ s17 ≤ 255) (b18 : 0 ≤ s18 ∧ s18 ≤ 255) (b19 : 0 ≤ s19 ∧ s19 ≤ 255) (lb : Bool)
    (hq : ∀ W : World, (binOp .quo 22 (.float .f64 (floatOfInt .f64 (low31 s16 s17 s18 s19))) (.float .f64 4746794007248502784)).run Yba.prog W = .ok (.float .f64 d) W) (hlb : (FloatKind.f64.format.order d qb == some Ordering.lt) = lb) :
    Calls Yba.prog 4 #[.agg #[.int .i64 rc, .float .f64 qb, .int .i64 mm, .int .u32 sd], .agg #[.int .u8 s0, .int .u8 s1, .int .u8 s2, .int .u8 s3, .int .u8 s4, .int .u8 s5, .int .u8 s6, .int .u8 s7, .int .u8 s8, .int .u8 s9, .int .u8 s10, .int .u8 s11, .int .u8 s12, .int .u8 s13, .int .u8 s14, .int .u8 s15, .int .u8 s16, .int .u8 s17, .int .u8 s18, .int .u8 s19, .int .i64 h]] w fun e w' => e = .returned (.int .i64 (if lb then mm else 0)) ∧ Below w.heap.size w w' := by
  have HM := show Hid (bits BinOp.and IntKind.u32 (be4 s16 s17 s18 s19) 2147483647 = low31 s16 s17 s18 s19) from be_low s16 s17 s18 s19 b16 b17 b18 b19
  cases lb
  all_goals
    go_enter Yba.func4, Yba.ntmps4
    go_wp2
    go_region_with (go_at_call 6; refine (u32_any _ _ _ s16 s17 s18 s19 _ b16 b17 b18 b19 (by simp [go_sem]) (by simp [go_sem]) (by simp [go_sem]) (by simp [go_sem])).mono ?_; rintro e w' ⟨rfl, n, rfl⟩)
    all_goals
      rw [HM.out]
      go_wp2
      go_ret
      exact ⟨rfl, below_drewN ((((Below.refl _ _).alloc (Nat.le_refl _) _).alloc (by simp) _).alloc (by simp; omega) _) _⟩

end Go.Proofs.Ybulkdxwk
