/-
  The law S6230A at great lengths: it returns at once.
-/
import Derived.Test.YbulkdxzqSmall
namespace Go.Proofs.Ybulkdxzq
open Go.RowKit

set_option maxRecDepth 100000 in
set_option maxHeartbeats 400000 in
theorem law_sum (fa ka da : Option Addr) (fl fc nk kc nd dc : Nat) (off ns : Int) (w : World) (m0 : fl ≤ 1048576) (m1 : nk ≤ 1048576) (m2 : nd ≤ 1048576) (hb : 1048576 < fl + nk + nd) :
    Calls Yba.prog 3 #[.slice fa fl fc, .slice ka nk kc, .slice da nd dc, .int .i64 off, .int .i64 ns] w fun e w' => e = .returned (.bool true) ∧ w' = w := by
  have hgt : (1048576 : Int) < (fl : Int) + (nk : Int) + (nd : Int) := by omega
  have hgd : decide ((1048576 : Int) < (fl : Int) + (nk : Int) + (nd : Int)) = true := by simpa using hgt
  go_enter Yba.func3, Yba.ntmps3
  go_wp2
  go_ret
  exact ⟨rfl, rfl⟩

set_option maxRecDepth 100000 in
set_option maxHeartbeats 400000 in
theorem law_wrap (fa ka da : Option Addr) (fl fc nk kc nd dc : Nat) (off ns : Int) (w : World) (hb : decide ((1048576 : Int) < wrap64 (wrap64 ((fl : Int) + (nk : Int)) + (nd : Int))) = true) :
    Calls Yba.prog 3 #[.slice fa fl fc, .slice ka nk kc, .slice da nd dc, .int .i64 off, .int .i64 ns] w fun e w' => e = .returned (.bool true) ∧ w' = w := by
  go_enter Yba.func3, Yba.ntmps3
  go_wp2
  go_ret
  exact ⟨rfl, rfl⟩

set_option maxRecDepth 100000 in
set_option maxHeartbeats 400000 in
theorem law_len0 (fa ka da : Option Addr) (fl fc nk kc nd dc : Nat) (off ns : Int) (w : World) (hb : decide ((1048576 : Int) < wrap64 (wrap64 ((fl : Int) + (nk : Int)) + (nd : Int))) = false) (h0 : decide ((1048576 : Int) < (fl : Int)) = true) :
    Calls Yba.prog 3 #[.slice fa fl fc, .slice ka nk kc, .slice da nd dc, .int .i64 off, .int .i64 ns] w fun e w' => e = .returned (.bool true) ∧ w' = w := by
  go_enter Yba.func3, Yba.ntmps3
  go_wp2
  go_ret
  exact ⟨rfl, rfl⟩

set_option maxRecDepth 100000 in
set_option maxHeartbeats 400000 in
theorem law_len1 (fa ka da : Option Addr) (fl fc nk kc nd dc : Nat) (off ns : Int) (w : World) (hb : decide ((1048576 : Int) < wrap64 (wrap64 ((fl : Int) + (nk : Int)) + (nd : Int))) = false) (h0 : decide ((1048576 : Int) < (fl : Int)) = false) (h1 : decide ((1048576 : Int) < (nk : Int)) = true) :
    Calls Yba.prog 3 #[.slice fa fl fc, .slice ka nk kc, .slice da nd dc, .int .i64 off, .int .i64 ns] w fun e w' => e = .returned (.bool true) ∧ w' = w := by
  go_enter Yba.func3, Yba.ntmps3
  go_wp2
  go_ret
  exact ⟨rfl, rfl⟩

set_option maxRecDepth 100000 in
set_option maxHeartbeats 400000 in
theorem law_len2 (fa ka da : Option Addr) (fl fc nk kc nd dc : Nat) (off ns : Int) (w : World) (hb : decide ((1048576 : Int) < wrap64 (wrap64 ((fl : Int) + (nk : Int)) + (nd : Int))) = false) (h0 : decide ((1048576 : Int) < (fl : Int)) = false) (h1 : decide ((1048576 : Int) < (nk : Int)) = false) (h2 : decide ((1048576 : Int) < (nd : Int)) = true) :
    Calls Yba.prog 3 #[.slice fa fl fc, .slice ka nk kc, .slice da nd dc, .int .i64 off, .int .i64 ns] w fun e w' => e = .returned (.bool true) ∧ w' = w := by
  go_enter Yba.func3, Yba.ntmps3
  go_wp2
  go_ret
  exact ⟨rfl, rfl⟩

theorem law_great (fa ka da : Option Addr) (fl fc nk kc nd dc : Nat) (off ns : Int) (w : World) (hbig : ¬ fl + nk + nd ≤ 1048576) :
    Calls Yba.prog 3 #[.slice fa fl fc, .slice ka nk kc, .slice da nd dc, .int .i64 off, .int .i64 ns] w fun e w' => e = .returned (.bool true) ∧ w' = w := by
  by_cases hs : fl ≤ 1048576 ∧ nk ≤ 1048576 ∧ nd ≤ 1048576
  · exact law_sum fa ka da fl fc nk kc nd dc off ns w hs.1 hs.2.1 hs.2.2 (by omega)
  cases hb : decide ((1048576 : Int) < wrap64 (wrap64 ((fl : Int) + (nk : Int)) + (nd : Int)))
  · cases h0 : decide ((1048576 : Int) < (fl : Int))
    · cases h1 : decide ((1048576 : Int) < (nk : Int))
      · cases h2 : decide ((1048576 : Int) < (nd : Int))
        · exfalso
          have a0 := of_decide_eq_false h0
          have a1 := of_decide_eq_false h1
          have a2 := of_decide_eq_false h2
          omega
        · exact law_len2 fa ka da fl fc nk kc nd dc off ns w hb h0 h1 h2
      · exact law_len1 fa ka da fl fc nk kc nd dc off ns w hb h0 h1
    · exact law_len0 fa ka da fl fc nk kc nd dc off ns w hb h0
  · exact law_wrap fa ka da fl fc nk kc nd dc off ns w hb

end Go.Proofs.Ybulkdxzq
