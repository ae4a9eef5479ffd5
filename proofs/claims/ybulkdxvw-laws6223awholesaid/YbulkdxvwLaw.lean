import Derived.Test.YbulkdxvwPeek
import Derived.Deep.OwnRows
import Derived.OpenShut
namespace Go.Proofs.Ybulkdxvw
open Go.RowKit

theorem Yba.info5 : (Yba.prog.info? 5).map (fun i => (i.zero, i.size, i.bytes)) = some (some (.int .u8 0), 1, 1) := by kernel_rfl

/-- The slice as the walk wants it. -/
def Lies (w : World) (a : Option Addr) (len : Nat) (l : List Int) : Prop :=
  l.length = len ∧ (0 < len → ∃ b off, a = some ⟨b, off, none⟩ ∧ b < w.heap.size ∧ ∀ i, i < len → w.cell? ⟨b, off + i, none⟩ = some (.int .u8 (l.getD i 0)))

/-- Loop 1: the first k bytes are copied into block N. -/
def Copied (N : Nat) (l : List Int) (len k : Nat) (w wr : World) : Prop :=
  wr.heap.size = N + 1 ∧ Below N w wr ∧ wr.rowIs N 5 len (fun j => .int .u8 (if j < k then l.getD j 0 else 0))

theorem Copied.start (l : List Int) (len : Nat) (w : World) : Copied w.heap.size l len 0 w (w.alloc (.cells (madeCells #[.int .u8 0] len) 5)) :=
  ⟨by simp, (Below.refl _ _).alloc (Nat.le_refl _) _, (World.rowIs_made w (.int .u8 0) len 5).congr (fun i _ => by simp)⟩

theorem Copied.step {N : Nat} {l : List Int} {len k : Nat} {w wr : World} (h : Copied N l len k w wr) :
    Copied N l len (k + 1) w (wr.setCell ⟨N, k, none⟩ (.int .u8 (l.getD k 0))) := by
  obtain ⟨h1, h2, h3⟩ := h
  refine ⟨by simpa [World.setCell] using h1, h2.setCell (Nat.le_refl _) _, (h3.set k _).congr (fun i hi => ?_)⟩
  by_cases e : i = k
  · subst e; simp
  · by_cases e2 : i < k
    · simp [e, e2, show i < k + 1 by omega]
    · simp [e, e2, show ¬ i < k + 1 by omega]

/-- What stands behind the call of peek. -/
structure After (N : Nat) (a : Option Addr) (len cap : Nat) (l : List Int) (o : Nat) (dep rds : Int) (w wp : World) : Prop where
  cp : ∀ j, j < len → wp.cell? ⟨N, j, none⟩ = some (.int .u8 (l.getD j 0))
  data : 0 < len → ∃ b bo, a = some ⟨b, bo, none⟩ ∧ ∀ j, j < len → wp.cell? ⟨b, bo + j, none⟩ = some (.int .u8 (l.getD j 0))
  r0 : wp.cell? ⟨N + 1, 0, none⟩ = some (.slice a len cap)
  r1 : wp.cell? ⟨N + 1, 1, none⟩ = some (.int .i64 o)
  r2 : wp.cell? ⟨N + 1, 2, none⟩ = some (.int .i64 dep)
  r3 : wp.cell? ⟨N + 1, 3, none⟩ = some (.int .i64 rds)
  bel : Below N w wp

theorem box_cell (wr : World) (N : Nat) (h : wr.heap.size = N + 1) (c : Array Value) (t : TypeId) (i : Nat) : (wr.alloc (.cells c t)).cell? ⟨N + 1, i, none⟩ = c[i]? := by
  rw [← h]; exact World.cell?_alloc_at (hn := rfl) ..

theorem box_frozen (wr : World) (N : Nat) (h : wr.heap.size = N + 1) (c : Array Value) (t : TypeId) (i : Nat) : (wr.alloc (.cells c t)).frozen? ⟨N + 1, i, none⟩ = false := by
  rw [← h]; exact World.frozen?_alloc_at (hn := rfl) ..

theorem after_of {a : Option Addr} {len cap : Nat} {l : List Int} {o o' : Nat} {dep rds : Int} {w wr wp : World} (hL : Lies w a len l) (hC : Copied w.heap.size l len len w wr)
    (hP : Peeked (w.heap.size + 1) o' (wr.alloc (.cells #[.slice a len cap, .int .i64 o, .int .i64 dep, .int .i64 rds] 25)) wp) : After w.heap.size a len cap l o' dep rds w wp := by
  obtain ⟨c1, c2, c3⟩ := hC
  obtain ⟨p1, p2, p3, p4⟩ := hP
  have hbel : Below w.heap.size w wp := (c2.alloc (by omega) _).trans (p4.mono (by omega))
  refine ⟨fun j hj => ?_, fun hp => ?_, ?_, p1, ?_, ?_, hbel⟩
  · rw [p3 _ (by simp), World.cell?_alloc_lt _ _ _ (by simp; omega), c3.cell hj]; simp [hj]
  · obtain ⟨b, bo, ha, hb, hcs⟩ := hL.2 hp
    exact ⟨b, bo, ha, fun j hj => by rw [hbel.cell (by exact hb)]; exact hcs j hj⟩
  · rw [p3 _ (by simp), box_cell wr _ c1]; rfl
  · rw [p3 _ (by simp), box_cell wr _ c1]; rfl
  · rw [p3 _ (by simp), box_cell wr _ c1]; rfl

theorem peek_row {a : Option Addr} {len : Nat} {l : List Int} {w wr : World} (ob : Obj) (hL : Lies w a len l) (hC : Copied w.heap.size l len len w wr) :
    0 < len → ∃ b off, a = some ⟨b, off, none⟩ ∧ b < w.heap.size + 1 ∧ ∀ i, i < len → (wr.alloc ob).cell? ⟨b, off + i, none⟩ = some (.int .u8 (l.getD i 0)) := by
  intro hp
  obtain ⟨b, bo, ha, hb, hcs⟩ := hL.2 hp
  refine ⟨b, bo, ha, by omega, fun i hi => ?_⟩
  rw [World.cell?_alloc_lt _ _ _ (by have := hC.1; simp; omega), hC.2.1.cell (by exact hb)]
  exact hcs i hi

set_option maxHeartbeats 1000000 in
theorem law_core (a : Option Addr) (len cap : Nat) (l : List Int) (off dep rds : Int) (w : World)
    (hl : Lies w a len l) (hsm : len ≤ 1048576) (h1 : (Lit.int .i64 off).wf = true) :
    Calls Yba.prog 3 #[.slice a len cap, .int .i64 off, .int .i64 dep, .int .i64 rds] w fun e w' => e = .returned (.bool true) ∧ Below w.heap.size w w' := by
  have hb := bounds_i64 h1
  clear h1
  have hmk := run_make_row' (P := Yba.prog) 22 5 (.int .u8 0) 1 Yba.underlying22 Yba.info5 rfl .i64 .i64 len (by omega) (by omega)
  obtain ⟨o, ho⟩ : ∃ o : Nat, (o : Int) = if off < 0 then -(off + 1) else off := by
    by_cases h : off < 0
    · exact ⟨(-(off + 1)).toNat, by rw [if_pos h]; omega⟩
    · exact ⟨off.toNat, by rw [if_neg h]; omega⟩
  have hob : o ≤ 9223372036854775807 := by split at ho <;> omega
  have HL := show Hid (Lies w a len l) from hl
  clear hl
  have hgt : ¬ (1048576 : Int) < (len : Int) := by omega
  by_cases h0 : off < 0
  have e : -(off + 1) = (o : Int) := by rw [ho, if_pos h0]
  have HO := show Hid (-(off + 1) = (o : Int)) from e
  rotate_left
  have e : off = (o : Int) := by rw [ho, if_neg h0]
  have HO := show Hid (off = (o : Int)) from e
  all_goals
    clear ho e
    go_enter Yba.func3, Yba.ntmps3
    go_wp2
    rw [HO.out]
    clear hmk
    go_loopw [10] (fun i wr => ∃ k : Nat, k ≤ len ∧ i = .int .i64 k ∧ Copied w.heap.size l len k w wr) (fun i _ => len - (intOf i).toNat)
    case atStart => exact ⟨0, Nat.zero_le _, rfl, Copied.start l len w⟩
    case round =>
      obtain ⟨k, hk, rfl, hC⟩ := hrel
      have HC := show Hid (Copied w.heap.size l len k w wr) from hC
      by_cases hlt : k < len
      · obtain ⟨b, bo, rfl, hbl, hcs⟩ := HL.out.2 (by omega)
        have hcx : wr.cell? ⟨b, bo + k, none⟩ = some (.int .u8 (l.getD k 0)) := by rw [hC.2.1.cell (by exact hbl)]; exact hcs k hlt
        have hcc := hC.2.2.cell hlt
        have hcf := hC.2.2.frozen k
        clear hcs hC
        go_wp2
        go_roundw
        case rel => exact ⟨k + 1, by omega, by go_num, HC.out.step⟩
        case measure => simp [intOf]; omega
      · obtain rfl : len = k := by omega
        have hsz := hC.1
        have hr := peek_row (.cells #[.slice a len cap, .int .i64 o, .int .i64 dep, .int .i64 rds] 25) HL.out hC
        have HR := show Hid (0 < len → ∃ b off, a = some ⟨b, off, none⟩ ∧ b < w.heap.size + 1 ∧ ∀ i, i < len → (wr.alloc (.cells #[.slice a len cap, .int .i64 o, .int .i64 dep, .int .i64 rds] 25)).cell? ⟨b, off + i, none⟩ = some (.int .u8 (l.getD i 0))) from hr
        clear hr hC
        go_wp2_with fail
        refine (peek_any (w.heap.size + 1) a len cap l o _ (box_cell wr _ HC.out.1 _ _ _) (box_cell wr _ HC.out.1 _ _ _) (box_frozen wr _ HC.out.1 _ _ _) (by omega) hob HL.out.1 HR.out).mono ?_
        rintro e wp ⟨rfl, hP⟩
        have hA := after_of HL.out HC.out hP
        have hgv : ∀ s, len ≤ s → l.getD s 0 = 0 := fun s hs => by have := HL.out.1; simp [List.getD, show l.length ≤ s by omega]
        have HGV := show Hid (∀ s, len ≤ s → l.getD s 0 = 0) from hgv
        clear hP HC HR hlt hk hsz hgv
        by_cases hol : o < len
        · have hs1 := stopAt_ge l o
          have hs2 := stopAt_le l o (by have := HL.out.1; omega)
          rw [HL.out.1] at hs2
          generalize hst : stopAt l o = s at *
          generalize hg : l.getD s 0 = g at *
          have HST := show Hid (stopAt l o = s) from hst
          have HG := show Hid (l.getD s 0 = g) from hg
          have HA := show Hid (After w.heap.size a len cap l s dep rds w wp) from hA
          have c0 := hA.r0
          have c1 := hA.r1
          have c2 := hA.r2
          have c3 := hA.r3
          clear hst hg hA
          go_wp2
          go_loop [13, 15] (fun wo j => ∃ k : Nat, ∃ z : Int, o ≤ k ∧ k ≤ len ∧ z + 1 = k ∧ j = .int .i64 z ∧ wo = .int .i64 (stopAt l k)) (fun _ j => (intOf j + 1).toNat)
          case atStart => exact ⟨len, (len : Int) - 1, by omega, by omega, by omega, rfl, by rw [stopAt_past l len (by rw [HL.out.1]; omega)]⟩
          case round =>
            obtain ⟨k, z, hk1, hk2, hz, rfl, rfl⟩ := hrel
            by_cases hk : o < k
            · obtain ⟨m, rfl⟩ : ∃ m, k = m + 1 := ⟨k - 1, by omega⟩
              obtain rfl : z = (m : Int) := by omega
              clear hz
              have hcm := HA.out.cp m (by omega)
              generalize hc : l.getD m 0 = c at *
              have HCm := show Hid (l.getD m 0 = c) from hc
              clear hc
              cases hw : isWs c
              · have hq : isWs (l.getD m 0) = false := by rw [HCm.out]; exact hw
                have HQ := show Hid (stopAt l m = m) from stopAt_no l m (by have := HL.out.1; omega) hq
                clear hq
                go_wp2_with (go_at_call 5; refine (ws_any _ _).mono ?_; rintro e w' ⟨rfl, rfl⟩)
                go_round
                case rel => exact ⟨m, (m : Int) - 1, by omega, by omega, by omega, rfl, by rw [HQ.out]⟩
                case measure => simp [intOf]
              · have hq : isWs (l.getD m 0) = true := by rw [HCm.out]; exact hw
                have HQ := show Hid (stopAt l m = stopAt l (m + 1)) from stopAt_ws l m (by have := HL.out.1; omega) hq
                clear hq
                go_wp2_with (go_at_call 5; refine (ws_any _ _).mono ?_; rintro e w' ⟨rfl, rfl⟩)
                go_round
                case rel => exact ⟨m, (m : Int) - 1, by omega, by omega, by omega, rfl, by rw [HQ.out]⟩
                case measure => simp [intOf]
            · obtain rfl : k = o := by omega
              obtain rfl : z = (k : Int) - 1 := by omega
              rw [HST.out]
              by_cases hsl : s < len
              · have hcs := HA.out.cp s hsl
                rw [HG.out] at hcs
                go_wp2
                go_loopw [16] (fun i wr => ∃ k : Nat, k ≤ len ∧ i = .int .i64 k ∧ ∃ n, wr = wp.drewN n) (fun i _ => len - (intOf i).toNat)
                case atStart => exact ⟨0, by omega, rfl, 0, rfl⟩
                case round =>
                  obtain ⟨k, hk, rfl, n, rfl⟩ := hrel
                  by_cases hlt : k < len
                  · obtain ⟨b, bo, rfl, hdc⟩ := HA.out.data (by omega)
                    have h1 := hdc k hlt
                    have h2 := HA.out.cp k hlt
                    generalize l.getD k 0 = ck at *
                    clear hdc
                    go_wp2
                    go_quiet (fail)
                    go_wp2
                    go_roundw
                    case rel => exact ⟨k + 1, by omega, by go_num, _, rfl⟩
                    case measure => simp [intOf]; omega
                  · go_wp2
                    go_ret
                    exact ⟨rfl, below_drewN HA.out.bel _⟩
              · have hg0 : g = 0 := by rw [← HG.out]; exact HGV.out s (by omega)
                subst hg0
                obtain rfl : len = s := by omega
                go_wp2
                go_loopw [16] (fun i wr => ∃ k : Nat, k ≤ len ∧ i = .int .i64 k ∧ ∃ n, wr = wp.drewN n) (fun i _ => len - (intOf i).toNat)
                case atStart => exact ⟨0, by omega, rfl, 0, rfl⟩
                case round =>
                  obtain ⟨k, hk, rfl, n, rfl⟩ := hrel
                  by_cases hlt : k < len
                  · obtain ⟨b, bo, rfl, hdc⟩ := HA.out.data (by omega)
                    have h1 := hdc k hlt
                    have h2 := HA.out.cp k hlt
                    generalize l.getD k 0 = ck at *
                    clear hdc
                    go_wp2
                    go_quiet (fail)
                    go_wp2
                    go_roundw
                    case rel => exact ⟨k + 1, by omega, by go_num, _, rfl⟩
                    case measure => simp [intOf]; omega
                  · go_wp2
                    go_ret
                    exact ⟨rfl, below_drewN HA.out.bel _⟩
        · rw [stopAt_past l o (by have := HL.out.1; omega)] at hA ⊢
          rw [HGV.out o (by omega)]
          have HA := show Hid (After w.heap.size a len cap l o dep rds w wp) from hA
          have c0 := hA.r0
          have c1 := hA.r1
          have c2 := hA.r2
          have c3 := hA.r3
          clear hA
          go_wp2
          go_loopw [16] (fun i wr => ∃ k : Nat, k ≤ len ∧ i = .int .i64 k ∧ ∃ n, wr = wp.drewN n) (fun i _ => len - (intOf i).toNat)
          case atStart => exact ⟨0, by omega, rfl, 0, rfl⟩
          case round =>
            obtain ⟨k, hk, rfl, n, rfl⟩ := hrel
            by_cases hlt : k < len
            · obtain ⟨b, bo, rfl, hdc⟩ := HA.out.data (by omega)
              have h1 := hdc k hlt
              have h2 := HA.out.cp k hlt
              generalize l.getD k 0 = ck at *
              clear hdc
              go_wp2
              go_quiet (fail)
              go_wp2
              go_roundw
              case rel => exact ⟨k + 1, by omega, by go_num, _, rfl⟩
              case measure => simp [intOf]; omega
            · go_wp2
              go_ret
              exact ⟨rfl, below_drewN HA.out.bel _⟩
end Go.Proofs.Ybulkdxvw
