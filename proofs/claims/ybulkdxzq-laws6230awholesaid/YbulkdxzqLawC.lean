/-
  The walk of the law S6230A: a new block for the copies.
-/
import Derived.Test.YbulkdxzqBase
namespace Go.Proofs.Ybulkdxzq
open Go.RowKit

theorem After.restC {w V : World} {ka da fa kA dA k d : Option Addr} {nk nd fl : Nat} {lk ld lf l : List Int} {off x y : Int} {g tb rb : Nat} (h : After w V ka da fa kA dA k d nk nd fl lk ld lf (lk ++ (ld ++ l)) off x y g tb rb) : RowAt V (some ⟨g, nk + nd, none⟩) l.length l := by
  have n1 := h.key.1
  have n2 := h.data.1
  refine ⟨rfl, (fun e => nomatch e), fun hp => ⟨g, nk + nd, rfl, h.row.row.lt, fun i hi => ?_⟩⟩
  rw [h.row.row.cell (i := nk + nd + i) (by simp; omega)]
  simp only [List.getD]
  rw [List.getElem?_append_right (by omega), List.getElem?_append_right (by omega), show nk + nd + i - lk.length - ld.length = i by omega]

theorem after_fresh {w W V : World} {ka da fa kA dA fA : Option Addr} {nk kc nd dc fl : Nat} {lk ld lf : List Int} {off x y : Int} {f cb tb rb : Nat} {k d : Value}
    (h : Start w W ka da fa kA dA fA nk kc nd dc fl lk ld lf off x y f cb tb rb) (hE : Hid ((ka = none → kc = 0) ∧ (da = none → dc = 0)))
    (ck : Cut ka nk kc W.heap.size 0 k) (cd : Cut da nd dc W.heap.size nk d)
    (g1 : V.rowIs rb 34 6 (recF (.int .i64 off) (.int .u64 x) (.int .i64 y) (.pointer none) k d)) (g2 : Whole V W.heap.size (splice (splice (List.replicate (4 * (nk + nd)) 0) 0 lk) nk ld)) (g3 : OnlyIn [rb, cb] W V)
    (g4 : V.rowIs cb 26 1 (fun _ => .slice (some ⟨W.heap.size, nk + nd, none⟩) (3 * (nk + nd)) (3 * (nk + nd)))) :
    ∃ g k' d' l', k = .slice k' nk nk ∧ d = .slice d' nd nd ∧ After w V ka da fa kA dA k' d' nk nd fl lk ld lf (lk ++ (ld ++ l')) off x y g tb rb ∧
      V.rowIs cb 26 1 (fun _ => .slice (some ⟨g, nk + nd, none⟩) (3 * (nk + nd)) (3 * (nk + nd))) ∧ RowAt V fA fl lf ∧ RowAt V (some ⟨g, nk + nd, none⟩) (3 * (nk + nd)) (List.replicate (3 * (nk + nd)) 0) := by
  have q1 := h.o1
  have q2 := h.o2
  have q3 := h.o3
  have q4 := h.o4
  obtain ⟨k', d', e1, e2, ha⟩ := after h hE (S := [rb, cb]) (fun j hj => by simp at hj; omega) (by omega) ck cd g1 g2 g3
  have e : (List.replicate (4 * (nk + nd)) (0 : Int)).drop (nk + nd) = List.replicate (3 * (nk + nd)) 0 := by
    rw [List.drop_replicate]
    congr 1
    omega
  have hr := ha.restC
  rw [e] at hr
  simp only [List.length_replicate] at hr
  exact ⟨_, k', d', _, e1, e2, ha, g4, h.freeC g3 (fun j hj => by simp at hj; omega), hr⟩

theorem allzero_heap {V : World} {a : Option Addr} {len : Nat} (c : Nat) (h : RowAt V a len (List.replicate len 0)) (hsm : len ≤ 9223372036854775807) :
    Hid (∀ W : World, W.heap = V.heap → Calls Yba.prog 9 #[.slice a len c] W fun e w' => e = .returned (.bool true) ∧ w' = W) :=
  fun W e => allzero_any a len c W (h.heap e) hsm

theorem fresh_k {w W : World} {ka da fa kA dA fA : Option Addr} {nk kc nd dc fl : Nat} {lk ld lf : List Int} {off x y : Int} {f cb tb rb : Nat} (h : Start w W ka da fa kA dA fA nk kc nd dc fl lk ld lf off x y f cb tb rb) :
    0 < nk → ∀ x, ka = some x → x.block < W.heap.size ∧ x.block ≠ cb ∧ x.block ≠ rb := fun hp x hx => by
  have q0 := h.base
  have q1 := h.o1
  have q2 := h.o2
  have q3 := h.o3
  have q4 := h.o4
  have := h.keyL hp x hx
  omega

theorem fresh_d {w W : World} {ka da fa kA dA fA : Option Addr} {nk kc nd dc fl : Nat} {lk ld lf : List Int} {off x y : Int} {f cb tb rb : Nat} (h : Start w W ka da fa kA dA fA nk kc nd dc fl lk ld lf off x y f cb tb rb) :
    0 < nd → ∀ x, da = some x → x.block < W.heap.size ∧ x.block ≠ cb ∧ x.block ≠ rb := fun hp x hx => by
  have q0 := h.base
  have q1 := h.o1
  have q2 := h.o2
  have q3 := h.o3
  have q4 := h.o4
  have := h.dataL hp x hx
  omega

set_option maxRecDepth 100000 in
set_option maxHeartbeats 2000000 in
theorem law_fresh (fa ka da : Option Addr) (fl fc nk kc nd dc : Nat) (lf lk ld : List Int) (off ns : Int) (w : World)
    (hf : RowAt w fa fl lf) (hk : RowAt w ka nk lk) (hd : RowAt w da nd ld) (hkc : ka = none → kc = 0) (hdc : da = none → dc = 0) (hsm : fl + nk + nd ≤ 1048576) (hns : -9223372036854775808 ≤ ns ∧ ns ≤ 9223372036854775807) (hn : 0 < nk + nd) (hn2 : nk + nd ≤ 256) (hfl : fl < nk + nd) :
    Calls Yba.prog 3 #[.slice fa fl fc, .slice ka nk kc, .slice da nd dc, .int .i64 off, .int .i64 ns] w fun e w' => e = .returned (.bool true) ∧ Below w.heap.size w w' := by
  have HF := hid hf
  have HK := hid hk
  have HD := hid hd
  have HN := hid hns
  have HE := hid (And.intro hkc hdc)
  clear hf hk hd hns hkc hdc
  have h1 : ¬ (1048576 : Int) < (fl : Int) + (nk : Int) + (nd : Int) := by omega
  have h2 : ¬ (1048576 : Int) < (fl : Int) := by omega
  have h3 : ¬ (1048576 : Int) < (nk : Int) := by omega
  have h4 : ¬ (1048576 : Int) < (nd : Int) := by omega
  have g1 : decide ((1048576 : Int) < (fl : Int) + (nk : Int) + (nd : Int)) = false := by simp; omega
  have g2 : decide ((1048576 : Int) < (fl : Int)) = false := by simp; omega
  have g3 : decide ((1048576 : Int) < (nk : Int)) = false := by simp; omega
  have g4 : decide ((1048576 : Int) < (nd : Int)) = false := by simp; omega
  have hb0 : (((nk : Int) + (nd : Int)) == 0) = false := by simp; omega
  have hb1 : decide ((256 : Int) < (nk : Int) + (nd : Int)) = false := by simp; omega
  have hb2 : ¬ ((256 : Int) < (nk : Int) + (nd : Int)) := by omega
  have hc1 : decide ((nk : Int) + (nd : Int) ≤ (fl : Int)) = false := by simp; omega
  have hc2 : ¬ ((nk : Int) + (nd : Int) ≤ (fl : Int)) := by omega
  have p28 := eq28
  go_enter Yba.func3, Yba.ntmps3
  go_wp2_with (first
    | (go_at_call 5
       with_reducible refine (copy_any ka nk kc lk w HK.out (by omega)).mono ?_
       rintro e w1 ⟨kA, rfl, -, o1, b1, -⟩
       have H1 := hid (And.intro o1 b1)
       clear o1 b1)
    | (go_at_call 5
       with_reducible refine (copy_any da nd dc ld w1 (HD.out.grow H1.out.2) (by omega)).mono ?_
       rintro e w2 ⟨dA, rfl, -, o2, b2, -⟩
       have H2 := hid (And.intro o2 b2)
       clear o2 b2)
    | (go_at_call 5
       with_reducible refine (copy_any fa fl fc lf w2 ((HF.out.grow H1.out.2).grow H2.out.2) (by omega)).mono ?_
       rintro e w3 ⟨fA, rfl, -, o3, b3, -⟩
       have H3 := hid (three HK.out HD.out HF.out H1.out.1 H1.out.2 H2.out.1 H2.out.2 o3 b3)
       clear o3 b3)
    | (go_at_call 6
       with_reducible refine (add_any ns _ HN.out).mono ?_
       rintro e w4 ⟨⟨x, y, rfl⟩, b4⟩
       have HS := hid (start kc dc off x y H3.out b4)
       clear b4)
    | (go_at_call 7
       refine (copier_fresh w3.heap.size (w4.heap.size + 1) off x y fA ka da nk kc nd dc fl fl lk ld _ HS.out.recd HS.out.cop (by have := HS.out.o2; have := HS.out.o3; omega) HS.out.key HS.out.data (fresh_k HS.out) (fresh_d HS.out) (by omega) (by omega) (by omega)).mono ?_
       rintro e V ⟨rfl, k0, ck, d0, cd, g1, g2, g3, g4'⟩
       obtain ⟨g, k, d, l0, rfl, rfl, ha⟩ := after_fresh HS.out HE ck cd g1 g2 g3 g4'
       have HA := hid ha.1
       have r0 := ha.1.recd.cell (i := 0) (by omega)
       have r1 := ha.1.recd.cell (i := 1) (by omega)
       have r2 := ha.1.recd.cell (i := 2) (by omega)
       have r3 := ha.1.recd.cell (i := 3) (by omega)
       have r4 := ha.1.recd.cell (i := 4) (by omega)
       have r5 := ha.1.recd.cell (i := 5) (by omega)
       have t0 := ha.1.time.cell (i := 0) (by omega)
       have t1 := ha.1.time.cell (i := 1) (by omega)
       have t2 := ha.1.time.cell (i := 2) (by omega)
       simp only [recF, timeF] at r0 r1 r2 r3 r4 r5 t0 t1 t2
       have c0 := ha.2.1.cell (i := 0) (by omega)
       have kn := ha.1.kn
       have dn := ha.1.dn
       have n1 := fun w => Lib.run_eql_slice_nil (P := Yba.prog) w 22 5 k nk nk 0 0 Yba.underlying22
       have n2 := fun w => Lib.run_eql_slice_nil (P := Yba.prog) w 22 5 d nd nd 0 0 Yba.underlying22
       have n3 := fun w => Lib.run_eql_slice_nil (P := Yba.prog) w 22 5 ka nk kc 0 0 Yba.underlying22
       have n4 := fun w => Lib.run_eql_slice_nil (P := Yba.prog) w 22 5 da nd dc 0 0 Yba.underlying22
       have n5 := fun w => Lib.run_eql_slice_nil (P := Yba.prog) w 22 5 fA fl fl 0 0 Yba.underlying22
       have E1 := equal_heap nk nk ha.1.keyR ha.1.keyC
       have E2 := equal_heap nd nd ha.1.dataR ha.1.dataC
       have E3 := equal_heap fl fc ha.2.2.1 ha.1.free
       have E4 := allzero_heap (3 * (nk + nd)) ha.2.2.2 (by omega)
       clear ha ck cd g1 g2 g3 g4')
    | (go_at_call 8; (with_reducible refine (E1.out _ ?_).mono ?_); exact rfl; rintro e w' ⟨rfl, rfl⟩)
    | (go_at_call 8; (with_reducible refine (E2.out _ ?_).mono ?_); exact rfl; rintro e w' ⟨rfl, rfl⟩)
    | (go_at_call 8; (with_reducible refine (E3.out _ ?_).mono ?_); exact rfl; rintro e w' ⟨rfl, rfl⟩)
    | (go_at_call 9; (with_reducible refine (E4.out _ ?_).mono ?_); exact rfl; rintro e w' ⟨rfl, rfl⟩))
  go_loopw [18] (fun i wr => ∃ j : Nat, j ≤ nk ∧ i = .int .i64 j ∧ ∃ gl, After w wr ka da fa kA dA k d nk nd fl lk ld lf gl off x y g w4.heap.size (w4.heap.size + 1)) (fun i _ => nk - (intOf i).toNat)
  case atStart => exact ⟨0, Nat.zero_le _, rfl, _, (HA.out)⟩
  case round =>
    obtain ⟨j, hj, rfl, gl, ha⟩ := hrel
    have HA2 := hid ha
    have r4 := ha.recd.cell (i := 4) (by omega)
    have r5 := ha.recd.cell (i := 5) (by omega)
    simp only [recF] at r4 r5
    by_cases hlt : j < nk
    · obtain rfl := ha.ka' (by omega)
      have cj := ha.cell (i := j) (by omega)
      have fj := ha.row.row.frozen j
      generalize gl.getD j 0 = z at *
      clear ha
      go_wp2
      go_region
      go_wp2
      go_roundw
      case rel => first | exact ⟨j + 1, by omega, by go_num, _, HA2.out.drew.turn j _⟩ | ((repeat apply Exists.intro); exact ⟨⟨j + 1, by omega, by go_num, _, HA2.out.drew.turn j _⟩, rfl⟩)
      case measure => simp [intOf]; omega
    · clear ha
      go_wp2
      go_loopw [19] (fun i wr => ∃ j : Nat, j ≤ nd ∧ i = .int .i64 j ∧ ∃ gl, After w wr ka da fa kA dA k d nk nd fl lk ld lf gl off x y g w4.heap.size (w4.heap.size + 1)) (fun i _ => nd - (intOf i).toNat)
      case atStart => exact ⟨0, Nat.zero_le _, rfl, _, HA2.out⟩
      case round =>
        obtain ⟨m, hm, rfl, gl2, ha⟩ := hrel
        have HA3 := hid ha
        have q4 := ha.recd.cell (i := 4) (by omega)
        have q5 := ha.recd.cell (i := 5) (by omega)
        simp only [recF] at q4 q5
        by_cases hlt2 : m < nd
        · obtain rfl := ha.da' (by omega)
          have cj := ha.cell (i := nk + m) (by omega)
          have fj := ha.row.row.frozen (nk + m)
          generalize gl2.getD (nk + m) 0 = z at *
          clear ha
          go_wp2
          go_region
          go_wp2
          go_roundw
          case rel => first | exact ⟨m + 1, by omega, by go_num, _, HA3.out.drew.turn (nk + m) _⟩ | ((repeat apply Exists.intro); exact ⟨⟨m + 1, by omega, by go_num, _, HA3.out.drew.turn (nk + m) _⟩, rfl⟩)
          case measure => simp [intOf]; omega
        · have E8 := equal_heap kc nk ha.key ha.keyC
          have E9 := equal_heap dc nd ha.data ha.dataC
          clear ha
          go_wp2_with (first
            | (go_at_call 8; (with_reducible refine (E8.out _ ?_).mono ?_); exact rfl; rintro e w' ⟨rfl, rfl⟩)
            | (go_at_call 8; (with_reducible refine (E9.out _ ?_).mono ?_); exact rfl; rintro e w' ⟨rfl, rfl⟩))
          go_ret
          exact ⟨rfl, HA3.out.bel⟩

end Go.Proofs.Ybulkdxzq
