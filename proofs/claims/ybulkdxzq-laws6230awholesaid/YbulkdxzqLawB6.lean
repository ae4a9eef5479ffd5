/-
  The walk of the law S6230A: there is room for the copies.
-/
import Derived.Test.YbulkdxzqRoom
namespace Go.Proofs.Ybulkdxzq
open Go.RowKit

set_option maxRecDepth 100000 in
set_option maxHeartbeats 8000000 in
theorem law_room_6 (fa ka da : Option Addr) (fl fc nk kc nd dc : Nat) (lf lk ld : List Int) (off ns : Int) (w : World)
    (hf : RowAt w fa fl lf) (hk : RowAt w ka nk lk) (hd : RowAt w da nd ld) (hkc : ka = none → kc = 0) (hdc : da = none → dc = 0) (hsm : fl + nk + nd ≤ 1048576) (hns : -9223372036854775808 ≤ ns ∧ ns ≤ 9223372036854775807) (hfcap : fl ≤ fc) (hn : 0 < nk + nd) (hn2 : nk + nd ≤ 256) (hfl : nk + nd ≤ fl) (hm : fl = nk + nd) (hk0 : ¬ 0 < nk) (hd0 : 0 < nd) (hfz : ¬ fc = nk + nd) :
    Calls Yba.prog 3 #[.slice fa fl fc, .slice ka nk kc, .slice da nd dc, .int .i64 off, .int .i64 ns] w fun e w' => e = .returned (.bool true) ∧ Below w.heap.size w w' := by
  subst hm
  have HF := hid hf
  have HK := hid hk
  have HD := hid hd
  have HN := hid hns
  have HE := hid (And.intro hkc hdc)
  obtain ⟨fb, fo, hfa, _, _⟩ := hf.2.2 (by omega)
  have HFA := hid hfa
  clear hfa
  clear hf hk hd hns hkc hdc
  have h1 : ¬ (1048576 : Int) < ((nk + nd : Nat) : Int) + (nk : Int) + (nd : Int) := by omega
  have h2 : ¬ (1048576 : Int) < ((nk + nd : Nat) : Int) := by omega
  have h3 : ¬ (1048576 : Int) < (nk : Int) := by omega
  have h4 : ¬ (1048576 : Int) < (nd : Int) := by omega
  have g1 : decide ((1048576 : Int) < ((nk + nd : Nat) : Int) + (nk : Int) + (nd : Int)) = false := by simp <;> omega
  have g2 : decide ((1048576 : Int) < ((nk + nd : Nat) : Int)) = false := by simp <;> omega
  have g3 : decide ((1048576 : Int) < (nk : Int)) = false := by simp <;> omega
  have g4 : decide ((1048576 : Int) < (nd : Int)) = false := by simp <;> omega
  have hb0 : (((nk : Int) + (nd : Int)) == 0) = false := by simp <;> omega
  have hb1 : decide ((256 : Int) < (nk : Int) + (nd : Int)) = false := by simp <;> omega
  have hb2 : ¬ ((256 : Int) < (nk : Int) + (nd : Int)) := by omega
  have hc1 : decide ((nk : Int) + (nd : Int) ≤ ((nk + nd : Nat) : Int)) = true := by simp <;> omega
  have hc2 : ((nk : Int) + (nd : Int) ≤ ((nk + nd : Nat) : Int)) := by omega
  have hc3 : nk + nd ≤ (nk + nd) := by omega
  have hc4 : nk ≤ nk + nd := by omega
  have hc5 : nk ≤ (nk + nd) := by omega
  have p38 := neq38
  have htn : ((nk : Int) + (nd : Int)).toNat = nk + nd := by omega
  have hnn : (0 : Int) ≤ (nk : Int) + (nd : Int) := by omega
  have hfpos : 0 < (nk + nd) := by omega
  have hpi : (0 : Int) < (nk : Int) + (nd : Int) := by omega
  have hq1 : decide ((0 : Int) < (nk : Int)) = false := by simp <;> omega
  have hq2 : decide (0 < nk) = false := by simp <;> omega
  have HK0 := hid hk0
  clear hk0
  have hd1 : (0 : Int) < (nd : Int) := by omega
  have hm8 : nk < (nk + nd) := by omega
  have hm9 : (nk : Int) < ((nk + nd : Nat) : Int) := by omega
  have p28 := eq28
  go_enter Yba.func3, Yba.ntmps3
  go_wp2_with (first
    | (go_at_call 5
       with_reducible refine (copy_any ka nk kc lk w HK.out (by omega)).mono ?_
       rintro e w1 ⟨kA, rfl, -, o1, b1, -⟩
       have H1 := hid (And.intro o1 b1)
       clear o1 b1)
    | (go_at_call 5
       with_reducible refine (copy_any da nd dc ld w1 (HD.out.grow H1.out.2) (by omega)).mono ?_
       rintro e w2 ⟨dA, rfl, -, o2, b2, -⟩
       have H2 := hid (And.intro o2 b2)
       clear o2 b2)
    | (go_at_call 5
       with_reducible refine (copy_any fa (nk + nd) fc lf w2 ((HF.out.grow H1.out.2).grow H2.out.2) (by omega)).mono ?_
       rintro e w3 ⟨fA, rfl, -, o3, b3, -⟩
       have H3 := hid (three HK.out HD.out HF.out H1.out.1 H1.out.2 H2.out.1 H2.out.2 o3 b3)
       clear o3 b3)
    | (go_at_call 6
       with_reducible refine (add_any ns _ HN.out).mono ?_
       rintro e w4 ⟨⟨x, y, rfl⟩, b4⟩
       have HS := hid (start kc dc off x y H3.out b4)
       clear b4)
    | (go_at_call 7
       rcases HS.out.own with ⟨_, h0, _⟩ | ⟨rfl, hfc, hwf, hlf⟩
       · exfalso; omega
       refine (copier_room w3.heap.size (w4.heap.size + 1) w2.heap.size off x y ka da nk kc nd dc (nk + nd) lk ld lf _ HS.out.recd HS.out.cop hwf hlf (by have := HS.out.o2; have := HS.out.o3; omega) (by have := HS.out.o2; have := HS.out.o3; omega) (by omega) HS.out.key HS.out.data (room_k HS.out) (room_d HS.out) (by omega) (by omega) (by omega) (by omega)).mono ?_
       rintro e V ⟨rfl, k0, ck, d0, cd, g1, g2, g3, g4'⟩
       obtain ⟨a', k, d, rfl, rfl, ha⟩ := after_room HS.out hfc HE ck cd g1 g2 g3 g4'
       have HA := hid ha.1
       have r0 := ha.1.recd.cell (i := 0) (by omega)
       have r1 := ha.1.recd.cell (i := 1) (by omega)
       have r2 := ha.1.recd.cell (i := 2) (by omega)
       have r3 := ha.1.recd.cell (i := 3) (by omega)
       have r4 := ha.1.recd.cell (i := 4) (by omega)
       have r5 := ha.1.recd.cell (i := 5) (by omega)
       have t0 := ha.1.time.cell (i := 0) (by omega)
       have t1 := ha.1.time.cell (i := 1) (by omega)
       have t2 := ha.1.time.cell (i := 2) (by omega)
       simp only [recF, timeF] at r0 r1 r2 r3 r4 r5 t0 t1 t2
       have c0 := ha.2.1.cell (i := 0) (by omega)
       have kn := ha.1.kn
       have dn := ha.1.dn
       have n1 := fun w => Lib.run_eql_slice_nil (P := Yba.prog) w 22 5 k nk nk 0 0 Yba.underlying22
       have n2 := fun w => Lib.run_eql_slice_nil (P := Yba.prog) w 22 5 d nd nd 0 0 Yba.underlying22
       have n3 := fun w => Lib.run_eql_slice_nil (P := Yba.prog) w 22 5 ka nk kc 0 0 Yba.underlying22
       have n4 := fun w => Lib.run_eql_slice_nil (P := Yba.prog) w 22 5 da nd dc 0 0 Yba.underlying22
       have n5 := fun w => Lib.run_eql_slice_nil (P := Yba.prog) w 22 5 (some ⟨w2.heap.size, 0, none⟩) (nk + nd) (nk + nd) 0 0 Yba.underlying22
       have E1 := equal_heap nk nk ha.1.keyR ha.1.keyC
       have E2 := equal_heap nd nd ha.1.dataR ha.1.dataC
       have E5 := head_heap ha.1
       have E6 := tail_heap ha.1
       have E7 := zero_heap V
       have hap := ha.2.2
       clear ha ck cd g1 g2 g3 g4' hwf)
    | (go_at_call 8; (with_reducible refine (E1.out _ ?_).mono ?_); exact rfl; rintro e w' ⟨rfl, rfl⟩)
    | (go_at_call 8; (with_reducible refine (E2.out _ ?_).mono ?_); exact rfl; rintro e w' ⟨rfl, rfl⟩)
    | (go_at_call 8; (with_reducible refine (E5.out _ _ _ ?_ ?_).mono ?_); exact rfl; exact (fun _ => rfl); rintro e w' ⟨rfl, rfl⟩)
    | (go_at_call 8; (with_reducible refine (E6.out _ _ _ ?_ ?_).mono ?_); exact rfl; (first | exact (fun _ => rfl) | (intro h; exfalso; omega)); rintro e w' ⟨rfl, rfl⟩))
  clear hap
  go_quiet (fail)
  go_wp2_with (first
    | (go_at_call 8; (with_reducible refine (E5.out _ _ _ ?_ ?_).mono ?_); exact rfl; exact (fun _ => rfl); rintro e w' ⟨rfl, rfl⟩)
    | (go_at_call 8; (with_reducible refine (E6.out _ _ _ ?_ ?_).mono ?_); exact rfl; (first | exact (fun _ => rfl) | (intro h; exfalso; omega)); rintro e w' ⟨rfl, rfl⟩))
  have hfa := HFA.out
  subst hfa
  go_region_with (go_at_call 8; (with_reducible refine (E7.out _ _ _ _ _ ?_).mono ?_); exact rfl; rintro e w' ⟨rfl, rfl⟩)
  go_wp2
  go_quiet (fail)
  go_wp2
  obtain rfl := HA.out.da' hd0
  go_quiet (fail)
  go_wp2
  go_loopw [18] (fun i wr => ∃ j : Nat, j ≤ nk ∧ i = .int .i64 j ∧ ∃ gl, After w wr ka da (some ⟨fb, fo, none⟩) kA dA k (some ⟨w2.heap.size, nk, none⟩) nk nd (nk + nd) lk ld lf gl off x y w2.heap.size w4.heap.size (w4.heap.size + 1)) (fun i _ => nk - (intOf i).toNat)
  case atStart => exact ⟨0, Nat.zero_le _, rfl, _, (by first | exact HA.out.drewN _ | exact (HA.out.drewN _).drewN _ | exact ((HA.out.drewN _).drewN _).drewN _ | exact (HA.out.drewN _).drew | exact (HA.out.drewN _).drew.drew | exact (HA.out.drewN _).drew.drew.drew | exact HA.out.drew | exact HA.out.drew.drew | exact HA.out.drew.drew.drew | exact HA.out.drew.drew.drew.drew)⟩
  case round =>
    obtain ⟨j, hj, rfl, gl, ha⟩ := hrel
    have HA2 := hid ha
    have r4 := ha.recd.cell (i := 4) (by omega)
    have r5 := ha.recd.cell (i := 5) (by omega)
    simp only [recF] at r4 r5
    by_cases hlt : j < nk
    · exact (HK0.out (by omega)).elim
    · clear ha
      go_wp2
      go_loopw [19] (fun i wr => ∃ j : Nat, j ≤ nd ∧ i = .int .i64 j ∧ ∃ gl, After w wr ka da (some ⟨fb, fo, none⟩) kA dA k (some ⟨w2.heap.size, nk, none⟩) nk nd (nk + nd) lk ld lf gl off x y w2.heap.size w4.heap.size (w4.heap.size + 1)) (fun i _ => nd - (intOf i).toNat)
      case atStart => exact ⟨0, Nat.zero_le _, rfl, _, HA2.out⟩
      case round =>
        obtain ⟨m, hm, rfl, gl2, ha⟩ := hrel
        have HA3 := hid ha
        have q4 := ha.recd.cell (i := 4) (by omega)
        have q5 := ha.recd.cell (i := 5) (by omega)
        simp only [recF] at q4 q5
        by_cases hlt2 : m < nd
        · have cj := ha.cell (i := nk + m) (by omega)
          have fj := ha.row.row.frozen (nk + m)
          generalize gl2.getD (nk + m) 0 = z at *
          clear ha
          go_wp2
          go_region
          go_wp2
          go_roundw
          case rel => first | exact ⟨m + 1, by omega, by go_num, _, HA3.out.drew.turn (nk + m) _⟩ | ((repeat apply Exists.intro); exact ⟨⟨m + 1, by omega, by go_num, _, HA3.out.drew.turn (nk + m) _⟩, rfl⟩)
          case measure => simp [intOf]; omega
        · have E8 := equal_heap kc nk ha.key ha.keyC
          have E9 := equal_heap dc nd ha.data ha.dataC
          clear ha
          go_wp2_with (first
            | (go_at_call 8; (with_reducible refine (E8.out _ ?_).mono ?_); exact rfl; rintro e w' ⟨rfl, rfl⟩)
            | (go_at_call 8; (with_reducible refine (E9.out _ ?_).mono ?_); exact rfl; rintro e w' ⟨rfl, rfl⟩))
          go_ret
          exact ⟨rfl, HA3.out.bel⟩

end Go.Proofs.Ybulkdxzq
