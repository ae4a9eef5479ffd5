import Derived.Test.YbulkdxxmYield
import Derived.Test.YbulkdxxmPart
namespace Go.Proofs.Ybulkdxxm
open Go.RowKit

/-- The cells of the region that the law lays at place i, its write flag b. -/
def regCells (i : Nat) (b : Bool) : Array Value := #[.string ⟨#[114]⟩, .int .u64 i, .int .u64 1, .bool false, .bool b, .int .u64 0, .int .u64 0]

theorem Yba.size26 : (Yba.prog.info? 26).map (·.size) = some 7 := by kernel_rfl

/-- The regions lie in block N. -/
def Regs (N : Nat) (ws : List Bool) (w : World) : Prop := ∀ i, i < ws.length → ∀ (j : Nat) (v : Value), (regCells i (ws.getD i false))[j]? = some v → w.cell? ⟨N, i * 7 + j, none⟩ = some v

/-- What a round reads, wherever the log stands. -/
structure Reads (N R L M B : Nat) (limit : Nat) (ws : List Bool) (T : Nat) (w : World) : Prop where
  m : w.cell? ⟨B, 0, none⟩ = some (.pointer (some ⟨R, 0, none⟩))
  r : w.cell? ⟨R, 1, none⟩ = some (.slice (some ⟨N, 0, none⟩) ws.length ws.length)
  lim : w.cell? ⟨M, 0, none⟩ = some (.int .i64 limit)
  t0 : w.cell? ⟨T, 0, none⟩ = some (.bool true)
  t1 : w.cell? ⟨T, 1, none⟩ = some (.bool false)
  regs : Regs N ws w

theorem Reads.kept {N R L M B : Nat} {limit : Nat} {ws : List Bool} {T base : Nat} {w w' : World} (h : Reads N R L M B limit ws T w) (hk : Kept base L w w') (hB : B < base ∧ B ≠ L) (hR : R < base ∧ R ≠ L) (hM : M < base ∧ M ≠ L) (hT : T < base ∧ T ≠ L) (hN : N < base ∧ N ≠ L) : Reads N R L M B limit ws T w' :=
  ⟨by rw [hk.cell (by exact hB.1) (by exact hB.2)]; exact h.m, by rw [hk.cell (by exact hR.1) (by exact hR.2)]; exact h.r, by rw [hk.cell (by exact hM.1) (by exact hM.2)]; exact h.lim,
   by rw [hk.cell (by exact hT.1) (by exact hT.2)]; exact h.t0, by rw [hk.cell (by exact hT.1) (by exact hT.2)]; exact h.t1,
   fun i hi j v hv => by rw [hk.cell (by exact hN.1) (by exact hN.2)]; exact h.regs i hi j v hv⟩

theorem LogIs.alloc {base L : Nat} {xs : List Int} {w : World} (hL : L < w.heap.size) (h : LogIs base L xs w) (o : Obj) : LogIs base L xs (w.alloc o) := by
  obtain ⟨v, h1, h2, h3⟩ := h
  exact ⟨v, by rw [World.cell?_alloc_lt _ _ _ (by exact hL)]; exact h1, by rw [World.frozen?_alloc_past (hn := hL)]; exact h2, h3.alloc _⟩

set_option maxHeartbeats 1000000 in
theorem seq_any (N R L M B : Nat) (limit : Nat) (ws : List Bool) (w : World) (hm : w.cell? ⟨B, 0, none⟩ = some (.pointer (some ⟨R, 0, none⟩))) (hr : w.cell? ⟨R, 1, none⟩ = some (.slice (some ⟨N, 0, none⟩) ws.length ws.length))
    (hregs : Regs N ws w) (hlim : w.cell? ⟨M, 0, none⟩ = some (.int .i64 limit)) (hlog : w.cell? ⟨L, 0, none⟩ = some (.slice none 0 0)) (hfz : w.frozen? ⟨L, 0, none⟩ = false)
    (hML : M ≠ L) (hBL : B ≠ L) (hRL : R ≠ L) (hNL : N ≠ L) (hNw : N < w.heap.size) (hlen : ws.length ≤ 1048576) :
    Calls Yba.prog 13 #[.func (.func 7) #[] #[.pointer (some ⟨L, 0, none⟩), .pointer (some ⟨M, 0, none⟩)], .pointer (some ⟨B, 0, none⟩)] w fun e w' =>
      e = .returned (.tuple #[]) ∧ LogIs (w.heap.size + 1) L (cutTo limit (full ws)) w' ∧ Kept (w.heap.size + 1) L (w.alloc (.cells #[.bool true, .bool false] 4)) w' := by
  have lB := World.block_lt_of_cell? _ _ hm
  have lR := World.block_lt_of_cell? _ _ hr
  have lL := World.block_lt_of_cell? _ _ hlog
  have lM := World.block_lt_of_cell? _ _ hlim
  have HRd := show Hid (Reads N R L M B limit ws w.heap.size (w.alloc (.cells #[.bool true, .bool false] 4))) from
    ⟨by rw [World.cell?_alloc_lt _ _ _ (by exact lB)]; exact hm, by rw [World.cell?_alloc_lt _ _ _ (by exact lR)]; exact hr, by rw [World.cell?_alloc_lt _ _ _ (by exact lM)]; exact hlim,
     World.cell?_alloc_at (hn := rfl) .., World.cell?_alloc_at (hn := rfl) .., fun i hi j v hv => by rw [World.cell?_alloc_lt _ _ _ (by exact hNw)]; exact hregs i hi j v hv⟩
  clear hm hr hlim hregs
  go_enter Yba.func13, Yba.ntmps13
  go_wp2
  go_loopw [9] (fun t wr => ∃ k : Nat, k ≤ 2 ∧ t = .int .i64 k ∧ (limit = 0 ∨ (headOf ws k).length < limit) ∧ LogIs (w.heap.size + 1) L (headOf ws k) wr ∧ Kept (w.heap.size + 1) L (w.alloc (.cells #[.bool true, .bool false] 4)) wr) (fun t _ => 2 - (intOf t).toNat)
  case atStart => exact ⟨0, by omega, rfl, by simp [headOf]; omega, ⟨_, by rw [World.cell?_alloc_lt _ _ _ (by exact lL)]; exact hlog, by rw [World.frozen?_alloc_past (hn := lL)]; exact hfz, World.ownsRow_nil _ _ _ _⟩, Kept.refl _ _ _⟩
  case round =>
    obtain ⟨k, hk, rfl, hcnt, hL, hK⟩ := hrel
    have hRd := HRd.out.kept hK ⟨by omega, hBL⟩ ⟨by omega, hRL⟩ ⟨by omega, hML⟩ ⟨by omega, by omega⟩ ⟨by omega, hNL⟩
    have HC := show Hid (limit = 0 ∨ (headOf ws k).length < limit) from hcnt
    have HL := show Hid (LogIs (w.heap.size + 1) L (headOf ws k) wr) from hL
    have HK := show Hid (Kept (w.heap.size + 1) L (w.alloc (.cells #[.bool true, .bool false] 4)) wr) from hK
    have c1 := hRd.m
    have c2 := hRd.r
    have c3 := hRd.t0
    have c4 := hRd.t1
    clear hcnt hL hK hRd
    by_cases hk2 : k < 2
    · have hkv : k = 0 ∨ k = 1 := by omega
      rcases hkv with rfl | rfl
      · go_wp2
        go_loopw [18] (fun u wq => ∃ j : Nat, j ≤ ws.length ∧ u = .int .i64 j ∧ (limit = 0 ∨ (seen ws 0 j).length < limit) ∧ LogIs (w.heap.size + 1) L (seen ws 0 j) wq ∧ Kept (w.heap.size + 1) L (w.alloc (.cells #[.bool true, .bool false] 4)) wq) (fun u _ => ws.length - (intOf u).toNat)
        case atStart => exact ⟨0, by omega, rfl, by rw [seen_zero]; exact HC.out, by rw [seen_zero]; exact HL.out, HK.out⟩
        case round =>
          obtain ⟨j, hj, rfl, hcnt, hL, hK⟩ := hrel
          have hRd := HRd.out.kept hK ⟨by omega, hBL⟩ ⟨by omega, hRL⟩ ⟨by omega, hML⟩ ⟨by omega, by omega⟩ ⟨by omega, hNL⟩
          have HC2 := show Hid (limit = 0 ∨ (seen ws 0 j).length < limit) from hcnt
          have HL2 := show Hid (LogIs (w.heap.size + 1) L (seen ws 0 j) wr) from hL
          have HK2 := show Hid (Kept (w.heap.size + 1) L (w.alloc (.cells #[.bool true, .bool false] 4)) wr) from hK
          clear hcnt hL hK c1 c2 c3 c4
          have c5 := hRd.lim
          by_cases hjn : j < ws.length
          · generalize hb : ws.getD j false = b at *
            have HB := show Hid (ws.getD j false = b) from hb
            have HG := show Hid (∀ (i : Nat) (v : Value), (#[.string ⟨#[114]⟩, .int .u64 j, .int .u64 1, .bool false, .bool b, .int .u64 0, .int .u64 0] : Array Value)[i]? = some v → wr.cell? ((⟨N, j * 7, none⟩ : Addr).add i) = some v) from fun i v hv => by
              rw [WideShapes.add_plain]; exact hRd.regs j hjn i v (by rw [hb]; exact hv)
            have hsz := HK2.out.size
            rw [Go.Deep.nblk_alloc] at hsz
            clear hRd hb
            have hsl := seen_le ws 0 j (by omega) hj
            cases b
            · have HM := show Hid (seen ws 0 (j + 1) = seen ws 0 j) from seen_miss ws 0 j (by rw [HB.out]; decide)
              go_wp2_with (first
                | refine wpList_load_cells rfl 26 (.tmp 21) rfl ⟨N, j * 7, none⟩ rfl #[.string ⟨#[114]⟩, .int .u64 j, .int .u64 1, .bool false, .bool false, .int .u64 0, .int .u64 0] _ HG.out Yba.underlying26 rfl Yba.size26 ?_
                | refine wpList_store_new rfl 26 (.tmp 6) (.tmp 22) rfl wr 26 _ rfl wr.heap.size rfl #[.string ⟨#[114]⟩, .int .u64 j, .int .u64 1, .bool false, .bool false, .int .u64 0, .int .u64 0] rfl rfl Yba.size26 rfl (by simp [Value.oneCell']) ?_)
              go_roundw
              case rel => first | exact ⟨j + 1, by omega, by go_num, by rw [HM.out]; exact HC2.out, by rw [HM.out]; exact LogIs.alloc (by omega) HL2.out _, HK2.out.trans (Kept.of_below ((Below.refl _ _).alloc (by omega) _))⟩ | ((repeat apply Exists.intro); exact ⟨⟨j + 1, by omega, by go_num, by rw [HM.out]; exact HC2.out, by rw [HM.out]; exact LogIs.alloc (by omega) HL2.out _, HK2.out.trans (Kept.of_below ((Below.refl _ _).alloc (by omega) _))⟩, rfl⟩)
              case measure => simp [intOf]; omega
            · have HH := show Hid (seen ws 0 (j + 1) = seen ws 0 j ++ [(j : Int)]) from seen_hit ws 0 j (by rw [HB.out]; rfl)
              by_cases hs : 0 < limit ∧ (seen ws 0 j).length + 1 = limit
              · have hd : (!(decide (0 < limit) && decide ((seen ws 0 j).length + 1 = limit))) = false := by simp [hs.1, hs.2]
                have HF := show Hid (seen ws 0 j ++ [(j : Int)] = cutTo limit (full ws)) from cut_stopped ws 0 j limit (by omega) hjn (by rw [HB.out]; rfl) hs.1 hs.2
                clear hs
                go_wp2_with (first
                | refine wpList_load_cells rfl 26 (.tmp 21) rfl ⟨N, j * 7, none⟩ rfl #[.string ⟨#[114]⟩, .int .u64 j, .int .u64 1, .bool false, .bool true, .int .u64 0, .int .u64 0] _ HG.out Yba.underlying26 rfl Yba.size26 ?_
                | refine wpList_store_new rfl 26 (.tmp 6) (.tmp 22) rfl wr 26 _ rfl wr.heap.size rfl #[.string ⟨#[114]⟩, .int .u64 j, .int .u64 1, .bool false, .bool true, .int .u64 0, .int .u64 0] rfl rfl Yba.size26 rfl (by simp [Value.oneCell']) ?_)
                refine (yield_any (w.heap.size + 1) L M limit _ (seen ws 0 j) _ (LogIs.alloc (by omega) HL2.out _) (by rw [World.cell?_alloc_lt _ _ _ (by simp; omega)]; exact c5) hML (by omega) (by omega) (by simp; omega) (by omega)).mono ?_
                rintro e wy ⟨rfl, hLy, hKy⟩
                rw [hd]
                have HLy := show Hid (LogIs (w.heap.size + 1) L (seen ws 0 j ++ [(j : Int)]) wy) from hLy
                have HKy := show Hid (Kept (w.heap.size + 1) L (w.alloc (.cells #[.bool true, .bool false] 4)) wy) from (HK2.out.trans (Kept.of_below ((Below.refl _ _).alloc (by omega) _))).trans hKy
                clear hLy hKy hd
                go_wp2
                (try simp only [Exit.inBlock, Exit.then])
                refine bodyPost_ret (results_none rfl _ _ _) rfl ?_
                exact ⟨rfl, by rw [← HF.out]; exact HLy.out, HKy.out⟩
              · have hd : (!(decide (0 < limit) && decide ((seen ws 0 j).length + 1 = limit))) = true := by rw [← Bool.decide_and, decide_eq_false hs]; rfl
                have hn : limit = 0 ∨ (seen ws 0 j).length + 1 < limit := by have := HC2.out; omega
                have HN := show Hid (limit = 0 ∨ (seen ws 0 j).length + 1 < limit) from hn
                clear hn
                clear hs
                go_wp2_with (first
                | refine wpList_load_cells rfl 26 (.tmp 21) rfl ⟨N, j * 7, none⟩ rfl #[.string ⟨#[114]⟩, .int .u64 j, .int .u64 1, .bool false, .bool true, .int .u64 0, .int .u64 0] _ HG.out Yba.underlying26 rfl Yba.size26 ?_
                | refine wpList_store_new rfl 26 (.tmp 6) (.tmp 22) rfl wr 26 _ rfl wr.heap.size rfl #[.string ⟨#[114]⟩, .int .u64 j, .int .u64 1, .bool false, .bool true, .int .u64 0, .int .u64 0] rfl rfl Yba.size26 rfl (by simp [Value.oneCell']) ?_)
                refine (yield_any (w.heap.size + 1) L M limit _ (seen ws 0 j) _ (LogIs.alloc (by omega) HL2.out _) (by rw [World.cell?_alloc_lt _ _ _ (by simp; omega)]; exact c5) hML (by omega) (by omega) (by simp; omega) (by omega)).mono ?_
                rintro e wy ⟨rfl, hLy, hKy⟩
                rw [hd]
                have HLy := show Hid (LogIs (w.heap.size + 1) L (seen ws 0 j ++ [(j : Int)]) wy) from hLy
                have HKy := show Hid (Kept (w.heap.size + 1) L (w.alloc (.cells #[.bool true, .bool false] 4)) wy) from (HK2.out.trans (Kept.of_below ((Below.refl _ _).alloc (by omega) _))).trans hKy
                clear hLy hKy hd
                go_wp2
                go_roundw
                case rel => first | exact ⟨j + 1, by omega, by go_num, by rw [HH.out]; simpa using HN.out, by rw [HH.out]; exact HLy.out, HKy.out⟩ | ((repeat apply Exists.intro); exact ⟨⟨j + 1, by omega, by go_num, by rw [HH.out]; simpa using HN.out, by rw [HH.out]; exact HLy.out, HKy.out⟩, rfl⟩)
                case measure => simp [intOf]; omega
          · have HE0 := show Hid (seen ws 0 j = headOf ws (0 + 1)) from by rw [show j = ws.length by omega]; exact seen_end ws 0 (by omega)
            clear hRd
            go_wp2
            go_roundw
            case rel => first | exact ⟨0 + 1, by omega, by go_num, by rw [← HE0.out]; exact HC2.out, by rw [← HE0.out]; exact HL2.out, HK2.out⟩ | ((repeat apply Exists.intro); exact ⟨⟨0 + 1, by omega, by go_num, by rw [← HE0.out]; exact HC2.out, by rw [← HE0.out]; exact HL2.out, HK2.out⟩, rfl⟩)
            case measure => simp [intOf]
      · go_wp2
        go_loopw [18] (fun u wq => ∃ j : Nat, j ≤ ws.length ∧ u = .int .i64 j ∧ (limit = 0 ∨ (seen ws 1 j).length < limit) ∧ LogIs (w.heap.size + 1) L (seen ws 1 j) wq ∧ Kept (w.heap.size + 1) L (w.alloc (.cells #[.bool true, .bool false] 4)) wq) (fun u _ => ws.length - (intOf u).toNat)
        case atStart => exact ⟨0, by omega, rfl, by rw [seen_zero]; exact HC.out, by rw [seen_zero]; exact HL.out, HK.out⟩
        case round =>
          obtain ⟨j, hj, rfl, hcnt, hL, hK⟩ := hrel
          have hRd := HRd.out.kept hK ⟨by omega, hBL⟩ ⟨by omega, hRL⟩ ⟨by omega, hML⟩ ⟨by omega, by omega⟩ ⟨by omega, hNL⟩
          have HC2 := show Hid (limit = 0 ∨ (seen ws 1 j).length < limit) from hcnt
          have HL2 := show Hid (LogIs (w.heap.size + 1) L (seen ws 1 j) wr) from hL
          have HK2 := show Hid (Kept (w.heap.size + 1) L (w.alloc (.cells #[.bool true, .bool false] 4)) wr) from hK
          clear hcnt hL hK c1 c2 c3 c4
          have c5 := hRd.lim
          by_cases hjn : j < ws.length
          · generalize hb : ws.getD j false = b at *
            have HB := show Hid (ws.getD j false = b) from hb
            have HG := show Hid (∀ (i : Nat) (v : Value), (#[.string ⟨#[114]⟩, .int .u64 j, .int .u64 1, .bool false, .bool b, .int .u64 0, .int .u64 0] : Array Value)[i]? = some v → wr.cell? ((⟨N, j * 7, none⟩ : Addr).add i) = some v) from fun i v hv => by
              rw [WideShapes.add_plain]; exact hRd.regs j hjn i v (by rw [hb]; exact hv)
            have hsz := HK2.out.size
            rw [Go.Deep.nblk_alloc] at hsz
            clear hRd hb
            have hsl := seen_le ws 1 j (by omega) hj
            cases b
            · have HH := show Hid (seen ws 1 (j + 1) = seen ws 1 j ++ [(j : Int)]) from seen_hit ws 1 j (by rw [HB.out]; rfl)
              by_cases hs : 0 < limit ∧ (seen ws 1 j).length + 1 = limit
              · have hd : (!(decide (0 < limit) && decide ((seen ws 1 j).length + 1 = limit))) = false := by simp [hs.1, hs.2]
                have HF := show Hid (seen ws 1 j ++ [(j : Int)] = cutTo limit (full ws)) from cut_stopped ws 1 j limit (by omega) hjn (by rw [HB.out]; rfl) hs.1 hs.2
                clear hs
                go_wp2_with (first
                | refine wpList_load_cells rfl 26 (.tmp 21) rfl ⟨N, j * 7, none⟩ rfl #[.string ⟨#[114]⟩, .int .u64 j, .int .u64 1, .bool false, .bool false, .int .u64 0, .int .u64 0] _ HG.out Yba.underlying26 rfl Yba.size26 ?_
                | refine wpList_store_new rfl 26 (.tmp 6) (.tmp 22) rfl wr 26 _ rfl wr.heap.size rfl #[.string ⟨#[114]⟩, .int .u64 j, .int .u64 1, .bool false, .bool false, .int .u64 0, .int .u64 0] rfl rfl Yba.size26 rfl (by simp [Value.oneCell']) ?_)
                refine (yield_any (w.heap.size + 1) L M limit _ (seen ws 1 j) _ (LogIs.alloc (by omega) HL2.out _) (by rw [World.cell?_alloc_lt _ _ _ (by simp; omega)]; exact c5) hML (by omega) (by omega) (by simp; omega) (by omega)).mono ?_
                rintro e wy ⟨rfl, hLy, hKy⟩
                rw [hd]
                have HLy := show Hid (LogIs (w.heap.size + 1) L (seen ws 1 j ++ [(j : Int)]) wy) from hLy
                have HKy := show Hid (Kept (w.heap.size + 1) L (w.alloc (.cells #[.bool true, .bool false] 4)) wy) from (HK2.out.trans (Kept.of_below ((Below.refl _ _).alloc (by omega) _))).trans hKy
                clear hLy hKy hd
                go_wp2
                (try simp only [Exit.inBlock, Exit.then])
                refine bodyPost_ret (results_none rfl _ _ _) rfl ?_
                exact ⟨rfl, by rw [← HF.out]; exact HLy.out, HKy.out⟩
              · have hd : (!(decide (0 < limit) && decide ((seen ws 1 j).length + 1 = limit))) = true := by rw [← Bool.decide_and, decide_eq_false hs]; rfl
                have hn : limit = 0 ∨ (seen ws 1 j).length + 1 < limit := by have := HC2.out; omega
                have HN := show Hid (limit = 0 ∨ (seen ws 1 j).length + 1 < limit) from hn
                clear hn
                clear hs
                go_wp2_with (first
                | refine wpList_load_cells rfl 26 (.tmp 21) rfl ⟨N, j * 7, none⟩ rfl #[.string ⟨#[114]⟩, .int .u64 j, .int .u64 1, .bool false, .bool false, .int .u64 0, .int .u64 0] _ HG.out Yba.underlying26 rfl Yba.size26 ?_
                | refine wpList_store_new rfl 26 (.tmp 6) (.tmp 22) rfl wr 26 _ rfl wr.heap.size rfl #[.string ⟨#[114]⟩, .int .u64 j, .int .u64 1, .bool false, .bool false, .int .u64 0, .int .u64 0] rfl rfl Yba.size26 rfl (by simp [Value.oneCell']) ?_)
                refine (yield_any (w.heap.size + 1) L M limit _ (seen ws 1 j) _ (LogIs.alloc (by omega) HL2.out _) (by rw [World.cell?_alloc_lt _ _ _ (by simp; omega)]; exact c5) hML (by omega) (by omega) (by simp; omega) (by omega)).mono ?_
                rintro e wy ⟨rfl, hLy, hKy⟩
                rw [hd]
                have HLy := show Hid (LogIs (w.heap.size + 1) L (seen ws 1 j ++ [(j : Int)]) wy) from hLy
                have HKy := show Hid (Kept (w.heap.size + 1) L (w.alloc (.cells #[.bool true, .bool false] 4)) wy) from (HK2.out.trans (Kept.of_below ((Below.refl _ _).alloc (by omega) _))).trans hKy
                clear hLy hKy hd
                go_wp2
                go_roundw
                case rel => first | exact ⟨j + 1, by omega, by go_num, by rw [HH.out]; simpa using HN.out, by rw [HH.out]; exact HLy.out, HKy.out⟩ | ((repeat apply Exists.intro); exact ⟨⟨j + 1, by omega, by go_num, by rw [HH.out]; simpa using HN.out, by rw [HH.out]; exact HLy.out, HKy.out⟩, rfl⟩)
                case measure => simp [intOf]; omega
            · have HM := show Hid (seen ws 1 (j + 1) = seen ws 1 j) from seen_miss ws 1 j (by rw [HB.out]; decide)
              go_wp2_with (first
                | refine wpList_load_cells rfl 26 (.tmp 21) rfl ⟨N, j * 7, none⟩ rfl #[.string ⟨#[114]⟩, .int .u64 j, .int .u64 1, .bool false, .bool true, .int .u64 0, .int .u64 0] _ HG.out Yba.underlying26 rfl Yba.size26 ?_
                | refine wpList_store_new rfl 26 (.tmp 6) (.tmp 22) rfl wr 26 _ rfl wr.heap.size rfl #[.string ⟨#[114]⟩, .int .u64 j, .int .u64 1, .bool false, .bool true, .int .u64 0, .int .u64 0] rfl rfl Yba.size26 rfl (by simp [Value.oneCell']) ?_)
              go_roundw
              case rel => first | exact ⟨j + 1, by omega, by go_num, by rw [HM.out]; exact HC2.out, by rw [HM.out]; exact LogIs.alloc (by omega) HL2.out _, HK2.out.trans (Kept.of_below ((Below.refl _ _).alloc (by omega) _))⟩ | ((repeat apply Exists.intro); exact ⟨⟨j + 1, by omega, by go_num, by rw [HM.out]; exact HC2.out, by rw [HM.out]; exact LogIs.alloc (by omega) HL2.out _, HK2.out.trans (Kept.of_below ((Below.refl _ _).alloc (by omega) _))⟩, rfl⟩)
              case measure => simp [intOf]; omega
          · have HE1 := show Hid (seen ws 1 j = headOf ws (1 + 1)) from by rw [show j = ws.length by omega]; exact seen_end ws 1 (by omega)
            clear hRd
            go_wp2
            go_roundw
            case rel => first | exact ⟨1 + 1, by omega, by go_num, by rw [← HE1.out]; exact HC2.out, by rw [← HE1.out]; exact HL2.out, HK2.out⟩ | ((repeat apply Exists.intro); exact ⟨⟨1 + 1, by omega, by go_num, by rw [← HE1.out]; exact HC2.out, by rw [← HE1.out]; exact HL2.out, HK2.out⟩, rfl⟩)
            case measure => simp [intOf]
    · obtain rfl : k = 2 := by omega
      go_wp2
      go_end0
      exact ⟨rfl, by rw [← cut_whole ws limit HC.out]; exact HL.out, HK.out⟩
end Go.Proofs.Ybulkdxxm
