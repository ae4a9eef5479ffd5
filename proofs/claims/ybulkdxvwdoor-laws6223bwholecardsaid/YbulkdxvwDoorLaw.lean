import Derived.Test.YbulkdxvwDoorEnter
import Derived.Deep.OwnRows
import Derived.OpenShut
import Derived.Laws.CopyOwn
import Derived.LaidEql
namespace Go.Proofs.YbulkdxvwDoor
open Go.RowKit

theorem Ybad.info5 : (Ybad.prog.info? 5).map (fun i => (i.zero, i.size, i.bytes)) = some (some (.int .u8 0), 1, 1) := by kernel_rfl
theorem Ybad.comp35 : (Ybad.prog.info? 35).map (·.comparable) = some true := by kernel_rfl
theorem Ybad.size56 : (Ybad.prog.info? 56).map (·.size) = some 1 := by kernel_rfl
theorem Ybad.size5 : (Ybad.prog.info? 5).map (·.size) = some 1 := by kernel_rfl

/-- The byte that 'endSel' picks. -/
theorem pick_end (es : Int) : ∃ en : Int, ∀ w, (Instr.index 9 (.string ⟨#[93, 125, 0, 44]⟩) (.int .u8 (es % 4))).run Ybad.prog w = .ok (.int .u8 en) w := by
  have h : es % 4 = 0 ∨ es % 4 = 1 ∨ es % 4 = 2 ∨ es % 4 = 3 := by omega
  rcases h with h | h | h | h <;> rw [h]
  · exact ⟨93, fun _ => by kernel_rfl⟩
  · exact ⟨125, fun _ => by kernel_rfl⟩
  · exact ⟨0, fun _ => by kernel_rfl⟩
  · exact ⟨44, fun _ => by kernel_rfl⟩

theorem made_list (len : Nat) : (madeCells #[Value.int .u8 0] len).toList = List.replicate len (Value.int .u8 0) := by
  apply List.ext_getElem?
  intro i
  by_cases h : i < len
  · simp [madeCells, h, Nat.mod_one]
  · simp [madeCells, h]

/-- What 'copy(cp, data)' does behind 'make'. -/
theorem copy_run {a : Option Addr} {len cap : Nat} {l : List Int} {w : World} (hl : l.length = len)
    (hr : 0 < len → ∃ b off, a = some ⟨b, off, none⟩ ∧ b < w.heap.size ∧ ∀ i, i < len → w.cell? ⟨b, off + i, none⟩ = some (.int .u8 (l.getD i 0))) :
    ∃ wc : World, (∀ ty, (Builtin.copy_ #[22, 22] ty #[.slice (some ⟨w.heap.size, 0, none⟩) len len, .slice a len cap]).run Ybad.prog (w.alloc (.cells (madeCells #[.int .u8 0] len) 5)) = .ok (goInt len) wc) ∧
      wc.rowIs w.heap.size 5 len (fun i => .int .u8 (l.getD i 0)) ∧ Below w.heap.size w wc ∧ wc.heap.size = w.heap.size + 1 := by
  have hb0 : Below w.heap.size w (w.alloc (.cells (madeCells #[.int .u8 0] len) 5)) := (Below.refl _ _).alloc (Nat.le_refl _) _
  have hg := Go.Deep.blk_alloc_new w (.cells (madeCells #[.int .u8 0] len) 5)
  rcases Nat.eq_zero_or_pos len with h0 | hp
  · subst h0
    exact ⟨_, fun ty => run_copy_none _ 22 22 ty 5 _ _ 0 0 0 cap Ybad.underlying22 Ybad.size5 (by simp), ⟨_, hg, by simp [madeCells], fun i hi => by omega⟩, hb0, by simp⟩
  · obtain ⟨b, off, rfl, hb, hc⟩ := hr hp
    have hrun := fun ty => run_copy_row (P := Ybad.prog) (w.alloc (.cells (madeCells #[.int .u8 0] len) 5)) 22 22 ty 5 w.heap.size 0 len len ⟨b, off, none⟩ len cap _ 5 (l.map (Value.int .u8)) Ybad.underlying22 Ybad.size5 hg (by simp [hl])
      (fun j v hj => by
        have hjl : j < l.length := by
          have := (List.getElem?_eq_some_iff.1 hj).1
          simpa using this
        have hjv : v = .int .u8 (l.getD j 0) := by
          simp [hjl] at hj
          simp [List.getD, hjl, hj]
        rw [WideShapes.add_plain, World.cell?_alloc_lt _ _ _ (by simpa using hb), hjv]
        exact hc j (by omega)) (by simp [madeCells, hl]) (fun v hv => by obtain ⟨x, _, rfl⟩ := List.mem_map.1 hv; rfl)
    simp only [List.length_map, hl] at hrun
    refine ⟨_, hrun, ⟨_, setRow_heap _ _ _ _ _ _ hg, by simp [hl, madeCells], fun i hi => ?_⟩, below_setRow hb0 (Nat.le_refl _) _, by simp [World.setRow]⟩
    simp [hl, hi, List.getD, made_list]

theorem box_cell (wr : World) (N : Nat) (h : wr.heap.size = N + 1) (c : Array Value) (t : TypeId) (i : Nat) : (wr.alloc (.cells c t)).cell? ⟨N + 1, i, none⟩ = c[i]? := by
  rw [← h]; exact World.cell?_alloc_at (hn := rfl) ..
theorem box_frozen (wr : World) (N : Nat) (h : wr.heap.size = N + 1) (c : Array Value) (t : TypeId) (i : Nat) : (wr.alloc (.cells c t)).frozen? ⟨N + 1, i, none⟩ = false := by
  rw [← h]; exact World.frozen?_alloc_at (hn := rfl) ..

/-- What stands in a world behind the reader's making: 'o1', 'd1': the reader's offset and depth. -/
structure St (a : Option Addr) (len cap : Nat) (l : List Int) (o1 d1 rds : Int) (gv : Value) (w wx : World) : Prop where
  r0 : wx.cell? ⟨w.heap.size + 1, 0, none⟩ = some (.slice a len cap)
  r1 : wx.cell? ⟨w.heap.size + 1, 1, none⟩ = some (.int .i64 o1)
  r2 : wx.cell? ⟨w.heap.size + 1, 2, none⟩ = some (.int .i64 d1)
  r3 : wx.cell? ⟨w.heap.size + 1, 3, none⟩ = some (.int .i64 rds)
  gl : wx.cell? ⟨0, 0, none⟩ = some gv
  data : RowAt wx a len l
  cp : RowAt wx (some ⟨w.heap.size, 0, none⟩) len l
  bel : Below w.heap.size w wx

theorem St.drewN {a : Option Addr} {len cap : Nat} {l : List Int} {o1 d1 rds : Int} {gv : Value} {w wx : World} (h : St a len cap l o1 d1 rds gv w wx) (n : Nat) : St a len cap l o1 d1 rds gv w (wx.drewN n) :=
  ⟨h.r0, h.r1, h.r2, h.r3, h.gl, h.data, h.cp, below_drewN h.bel n⟩

theorem st_box {a : Option Addr} {len cap : Nat} {l : List Int} {o dep rds : Int} {gv : Value} {w wc : World} (hl : l.length = len)
    (hr : 0 < len → ∃ b off, a = some ⟨b, off, none⟩ ∧ b < w.heap.size ∧ ∀ i, i < len → w.cell? ⟨b, off + i, none⟩ = some (.int .u8 (l.getD i 0)))
    (hrw : wc.rowIs w.heap.size 5 len (fun i => .int .u8 (l.getD i 0))) (hbc : Below w.heap.size w wc) (hsz : wc.heap.size = w.heap.size + 1) (hg : w.cell? ⟨0, 0, none⟩ = some gv) :
    St a len cap l o dep rds gv w (wc.alloc (.cells #[.slice a len cap, .int .i64 o, .int .i64 dep, .int .i64 rds] 26)) := by
  have hb := hbc.alloc (by omega) (.cells #[.slice a len cap, .int .i64 o, .int .i64 dep, .int .i64 rds] 26)
  refine ⟨box_cell _ _ hsz _ _ _, box_cell _ _ hsz _ _ _, box_cell _ _ hsz _ _ _, box_cell _ _ hsz _ _ _, ?_, ⟨hl, fun hp => ?_⟩, ⟨hl, fun hp => ⟨_, _, rfl, fun i hi => ?_⟩⟩, hb⟩
  · rw [hb.cell (World.block_lt_of_cell? _ _ hg)]; exact hg
  · obtain ⟨b, off, ha, hlt, hc⟩ := hr hp
    exact ⟨b, off, ha, fun i hi => by rw [hb.cell (by exact hlt)]; exact hc i hi⟩
  · rw [Nat.zero_add]; exact (hrw.alloc _).cell hi

theorem st_entered {a : Option Addr} {len cap : Nat} {l : List Int} {o1 d1 o2 d2 rds : Int} {gv : Value} {w wx wp : World} (h : St a len cap l o1 d1 rds gv w wx)
    (hr : 0 < len → ∃ b off, a = some ⟨b, off, none⟩ ∧ b < w.heap.size ∧ ∀ i, i < len → w.cell? ⟨b, off + i, none⟩ = some (.int .u8 (l.getD i 0)))
    (hg : w.cell? ⟨0, 0, none⟩ = some gv) (he : Entered (w.heap.size + 1) o2 d2 wx wp) : St a len cap l o2 d2 rds gv w wp := by
  obtain ⟨e1, e2, e3, e4⟩ := he
  have hb := h.bel.trans (e4.mono (by omega))
  refine ⟨?_, e1, e2, ?_, ?_, ⟨h.data.1, fun hp => ?_⟩, ⟨h.data.1, fun hp => ⟨_, _, rfl, fun i hi => ?_⟩⟩, hb⟩
  · rw [e3 _ (by simp) (by simp)]; exact h.r0
  · rw [e3 _ (by simp) (by simp)]; exact h.r3
  · rw [hb.cell (World.block_lt_of_cell? _ _ hg)]; exact hg
  · obtain ⟨b, off, ha, hlt, hc⟩ := hr hp
    exact ⟨b, off, ha, fun i hi => by rw [hb.cell (by exact hlt)]; exact hc i hi⟩
  · obtain ⟨b, off, ha, hc⟩ := h.cp.2 hp
    cases ha
    rw [e3 _ (by simp) (by simp)]; exact hc i hi

set_option maxHeartbeats 1000000 in
theorem law_core (a : Option Addr) (len cap : Nat) (l : List Int) (off dep rds es : Int) (ea : Addr) (w : World)
    (hl : l.length = len) (hr : 0 < len → ∃ b off, a = some ⟨b, off, none⟩ ∧ b < w.heap.size ∧ ∀ i, i < len → w.cell? ⟨b, off + i, none⟩ = some (.int .u8 (l.getD i 0))) (hsm : len ≤ 1048576)
    (hg : w.cell? ⟨0, 0, none⟩ = some (.iface 35 (.pointer (some ea))))
    (h1 : (Lit.int .u64 off).wf = true) (h2 : (Lit.int .i64 dep).wf = true) (h4 : (Lit.int .u8 es).wf = true) :
    Calls Ybad.prog 3 #[.slice a len cap, .int .u64 off, .int .i64 dep, .int .i64 rds, .int .u8 es] w fun e w' => e = .returned (.bool true) ∧ Below w.heap.size w w' := by
  have b1 := bounds_u64 h1
  have b2 := bounds_i64 h2
  have b4 := bounds_u8 h4
  clear h1 h2 h4
  have hmk := run_make_row' (P := Ybad.prog) 22 5 (.int .u8 0) 1 Ybad.underlying22 Ybad.info5 rfl .i64 .i64 len (by omega) (by omega)
  obtain ⟨en, hen⟩ := pick_end es
  have hgt : ¬ (1048576 : Int) < (len : Int) := by omega
  obtain ⟨wc, hcp, hrw, hbc, hsz⟩ := copy_run (cap := cap) hl hr
  have HRW := show Hid (wc.rowIs w.heap.size 5 len (fun i => .int .u8 (l.getD i 0))) from hrw
  have HL := show Hid (l.length = len) from hl
  have HR := show Hid (0 < len → ∃ b off, a = some ⟨b, off, none⟩ ∧ b < w.heap.size ∧ ∀ i, i < len → w.cell? ⟨b, off + i, none⟩ = some (.int .u8 (l.getD i 0))) from hr
  clear hrw hl hr
  obtain ⟨o, ho⟩ : ∃ o : Nat, (o : Int) = off % ((len : Int) + 1) := ⟨(off % ((len : Int) + 1)).toNat, by have := Int.emod_nonneg off (show (len : Int) + 1 ≠ 0 by omega); omega⟩
  have hol : o ≤ len := by have := Int.emod_lt_of_pos off (show 0 < (len : Int) + 1 by omega); omega
  have HO := show Hid (wrap64 (off % ((len : Int) + 1)) = (o : Int)) from by rw [← ho]; exact IntWalk.wrap64_in _ ⟨by omega, by omega⟩
  clear ho
  have hst := st_box (cap := cap) (o := (o : Int)) (dep := dep) (rds := rds) HL.out HR.out HRW.out hbc hsz hg
  have HST := show Hid (St a len cap l o dep rds (.iface 35 (.pointer (some ea))) w (wc.alloc (.cells #[.slice a len cap, .int .i64 (o : Int), .int .i64 dep, .int .i64 rds] 26))) from hst
  clear hst
  obtain ⟨i27, hi27, hc27⟩ := Option.map_eq_some_iff.1 Ybad.comp35
  obtain ⟨i29, hi29, hc29⟩ := Option.map_eq_some_iff.1 Ybad.size56
  have heq := fun wx => run_eql_iface_ptr_same (P := Ybad.prog) wx ea Ybad.underlying28 Ybad.underlying35 hi27 hc27 hi29
  go_enter Ybad.func3, Ybad.ntmps3
  go_wp2_with fail
  rw [HO.out]
  by_cases hdp : 10000 ≤ dep
  · refine (enter_deep (w.heap.size + 1) dep en 35 ea _ HST.out.r2 hdp HST.out.gl).mono ?_
    rintro e we ⟨rfl, n, rfl⟩
    have hS := HST.out.drewN n
    generalize ((wc.alloc (.cells #[.slice a len cap, .int .i64 (o : Int), .int .i64 dep, .int .i64 rds] 26)).drewN n) = wx at *
    have HS := show Hid (St a len cap l o dep rds (.iface 35 (.pointer (some ea))) w wx) from hS
    have c0 := hS.r0
    have c1 := hS.r1
    have c2 := hS.r2
    have c3 := hS.r3
    have cg := hS.gl
    clear hS HST
    go_wp2_with (go_at_call 5; refine (same_any _ _ len _ _ l _ (by omega) (by exact HS.out.data) (by exact HS.out.cp)).mono ?_; rintro e w' ⟨rfl, n, rfl⟩)
    go_ret
    exact ⟨rfl, below_drewN HS.out.bel _⟩
  · refine (enter_in (w.heap.size + 1) a len cap l o dep en _ HST.out.r0 HST.out.r1 HST.out.r2 (fun i => box_frozen _ _ hsz _ _ _) hsm hol b2.1 (by omega) HL.out (fun hp => ?_)).mono ?_
    · obtain ⟨b, bo, ha, hlt, hc⟩ := HR.out hp
      exact ⟨b, bo, ha, by omega, fun i hi => by rw [HST.out.bel.cell (by exact hlt)]; exact hc i hi⟩
    intro e we hpost
    have hs1 := stopAt_ge l (o + 1)
    have hs2 : stopAt l (o + 1) ≤ len + 1 := by
      by_cases h : o + 1 ≤ len
      · have := stopAt_le l (o + 1) (by have := HL.out; omega); have := HL.out; omega
      · rw [stopAt_past l (o + 1) (by have := HL.out; omega)]; omega
    have hgv : len ≤ stopAt l (o + 1) → l.getD (stopAt l (o + 1)) 0 = 0 := fun hs => by have := HL.out; simp [List.getD, show l.length ≤ stopAt l (o + 1) by omega]
    have HGV := show Hid (len ≤ stopAt l (o + 1) → l.getD (stopAt l (o + 1)) 0 = 0) from hgv
    clear hgv
    generalize hg0 : l.getD (stopAt l (o + 1)) 0 = g at *
    generalize hst : stopAt l (o + 1) = s at *
    have HG := show Hid (l.getD s 0 = g) from hg0
    have HS0 := show Hid (stopAt l (o + 1) = s) from hst
    clear hg0 hst
    obtain ⟨o2, d2, bo, hres⟩ : ∃ (o2 d2 : Int) (bo : Bool), e = .returned (.tuple #[.bool bo, .nilIface]) ∧ Entered (w.heap.size + 1) o2 d2 (wc.alloc (.cells #[.slice a len cap, .int .i64 (o : Int), .int .i64 dep, .int .i64 rds] 26)) we ∧ (g = en → bo = true ∧ o2 = (s : Int) + 1 ∧ d2 = dep) ∧ (g ≠ en → bo = false ∧ o2 = s ∧ d2 = dep + 1) := by
      by_cases h : g = en
      · obtain ⟨p1, p2⟩ := hpost.1 h
        exact ⟨_, _, _, p1, p2, fun _ => ⟨rfl, rfl, rfl⟩, fun h' => absurd h h'⟩
      · obtain ⟨p1, p2⟩ := hpost.2 h
        exact ⟨_, _, _, p1, p2, fun h' => absurd h' h, fun _ => ⟨rfl, rfl, rfl⟩⟩
    obtain ⟨rfl, hE, hyes, hno⟩ := hres
    have hS := st_entered HST.out HR.out hg hE
    have HS := show Hid (St a len cap l o2 d2 rds (.iface 35 (.pointer (some ea))) w we) from hS
    have HY := show Hid (g = en → bo = true ∧ o2 = (s : Int) + 1 ∧ d2 = dep) from hyes
    have HN := show Hid (g ≠ en → bo = false ∧ o2 = s ∧ d2 = dep + 1) from hno
    have c0 := hS.r0
    have c1 := hS.r1
    have c2 := hS.r2
    have c3 := hS.r3
    clear hS HST hpost hE hyes hno heq hcp
    have hdd : decide ((10000 : Int) ≤ dep) = false := by simp; omega
    go_wp2_with (go_at_call 5; refine (same_any _ _ len _ _ l _ (by omega) (by exact HS.out.data) (by exact HS.out.cp)).mono ?_; rintro e w' ⟨rfl, n, rfl⟩)
    go_loop [17] (fun i => ∃ k : Nat, o + 1 ≤ k ∧ k ≤ len + 1 ∧ Hid (stopAt l k = s) ∧ i = .int .i64 k) (fun i => len + 1 - (intOf i).toNat)
    case atStart => exact ⟨o + 1, by omega, by omega, HS0.out, by go_num⟩
    case round =>
      obtain ⟨k, hk1, hk2, HK, rfl⟩ := hrel
      by_cases hlt : k < len
      · have hcc := HS.out.cp.2 (by omega)
        obtain ⟨b, bo2, hbe, hcs⟩ := hcc
        cases hbe
        have hck := hcs k hlt
        rw [Nat.zero_add] at hck
        clear hcs
        generalize hc : l.getD k 0 = c at *
        have HC := show Hid (l.getD k 0 = c) from hc
        clear hc
        cases hw : isWs c
        · have hq : k = s := by rw [← HK.out, stopAt_no l k (by have := HL.out; omega) (by rw [HC.out]; exact hw)]
          subst hq
          obtain rfl : c = g := by rw [← HC.out]; exact HG.out
          by_cases hge : c = en
          · obtain ⟨rfl, rfl, rfl⟩ := HY.out hge
            subst hge
            go_wp2_with (go_at_call 6; refine (ws_any _ _).mono ?_; rintro e w' ⟨rfl, rfl⟩)
            go_ret
            exact ⟨rfl, below_drewN HS.out.bel _⟩
          · obtain ⟨rfl, rfl, rfl⟩ := HN.out hge
            have hne : (c == en) = false := beq_eq_false_iff_ne.2 hge
            go_wp2_with (go_at_call 6; refine (ws_any _ _).mono ?_; rintro e w' ⟨rfl, rfl⟩)
            go_ret
            exact ⟨rfl, below_drewN HS.out.bel _⟩
        · have HK2 := show Hid (stopAt l (k + 1) = s) from by
            have := HK.out
            rw [stopAt_ws l k (by have := HL.out; omega) (by rw [HC.out]; exact hw)] at this
            exact this
          go_wp2_with (go_at_call 6; refine (ws_any _ _).mono ?_; rintro e w' ⟨rfl, rfl⟩)
          go_round
          case rel => exact ⟨k + 1, by omega, by omega, HK2, by go_num⟩
          case measure => simp [intOf]; omega
      · have hq : k = s := by rw [← HK.out, stopAt_past l k (by have := HL.out; omega)]
        subst hq
        obtain rfl : g = 0 := HGV.out (by omega)
        have hld : decide ((k : Int) < (len : Int)) = false := by simp; omega
        by_cases hge : (0 : Int) = en
        · obtain ⟨rfl, rfl, rfl⟩ := HY.out hge
          subst hge
          go_wp2
          go_ret
          exact ⟨rfl, below_drewN HS.out.bel _⟩
        · obtain ⟨rfl, rfl, rfl⟩ := HN.out hge
          have hne : ((0 : Int) == en) = false := beq_eq_false_iff_ne.2 hge
          go_wp2
          go_ret
          exact ⟨rfl, below_drewN HS.out.bel _⟩
end Go.Proofs.YbulkdxvwDoor
