/-
  copier.clone, for the law S6230A.
-/
import Derived.Test.YbulkdxzqClone
namespace Go.Proofs.Ybulkdxzq
open Go.RowKit

theorem rec_block {w : World} {rb : Nat} {o t0 t1 t2 k d : Value} (h : w.rowIs rb 34 6 (recF o t0 t1 t2 k d)) : w.heap[rb]? = some (.cells #[o, t0, t1, t2, k, d] 34 (0, 0)) := by
  obtain ⟨c, hc, hs, hf⟩ := h
  rw [hc]
  congr 2
  apply Array.ext_getElem?
  intro i
  rcases Nat.lt_or_ge i 6 with hi | hi
  · rw [hf i hi]
    obtain rfl | rfl | rfl | rfl | rfl | rfl : i = 0 ∨ i = 1 ∨ i = 2 ∨ i = 3 ∨ i = 4 ∨ i = 5 := by omega
    all_goals rfl
  · rw [Array.getElem?_eq_none (by omega), Array.getElem?_eq_none (by simpa using hi)]

theorem rec_old {w w' : World} {rb : Nat} {o t0 t1 t2 k d : Value} (h : w.rowIs rb 34 6 (recF o t0 t1 t2 k d)) {n : Nat} (hb : Below w.heap.size (w.drewN n) w') : w'.heap[rb]? = some (.cells #[o, t0, t1, t2, k, d] 34 (0, 0)) :=
  (hb.block rb h.lt).trans (rec_block h)

theorem apart_post {w w' : World} {rb q : Nat} {off x y : Int} {ka da : Option Addr} {nk kc nd dc : Nat} {l : List Int} {k d k0 d0 : Value} {old : Array Value}
    (hR : w.rowIs rb 34 6 (recF (.int .i64 off) (.int .u64 x) (.int .i64 y) (.pointer none) k0 d0))
    (HG : Hid (Cut ka nk kc ((w.drewN q).heap.size + 2) 0 k ∧ Cut da nd dc ((w.drewN q).heap.size + 2) nk d ∧ Whole w' ((w.drewN q).heap.size + 2) l ∧ Below (w.drewN q).heap.size (w.drewN q) w' ∧ w'.heap[rb]? = some (.cells old 34 (0, 0)))) :
    ∃ k', Cut ka nk kc (w.heap.size + 2) 0 k' ∧ ∃ d', Cut da nd dc (w.heap.size + 2) nk d' ∧ (w'.setRow rb #[.int .i64 off, .int .u64 x, .int .i64 y, .pointer none, k, d]).rowIs rb 34 6 (recF (.int .i64 off) (.int .u64 x) (.int .i64 y) (.pointer none) k' d') ∧
        Whole (w'.setRow rb #[.int .i64 off, .int .u64 x, .int .i64 y, .pointer none, k, d]) (w.heap.size + 2) l ∧ OnlyIn [rb] w (w'.setRow rb #[.int .i64 off, .int .u64 x, .int .i64 y, .pointer none, k, d]) := by
  obtain ⟨g1, g2, g3, g4, g5⟩ := HG.out
  have hlt := hR.lt
  refine ⟨k, g1, d, g2, ⟨_, setRow_heap _ _ _ _ 34 _ g5, rfl, fun i hi => ?_⟩, (setRow_other _ _ _ _ (by omega)).trans g3, ⟨g4.os, g4.tape, g4.output, ?_, fun j hj hn => ?_⟩⟩
  · obtain rfl | rfl | rfl | rfl | rfl | rfl : i = 0 ∨ i = 1 ∨ i = 2 ∨ i = 3 ∨ i = 4 ∨ i = 5 := by omega
    all_goals rfl
  · rw [setRow_size]; exact g4.size
  · rw [setRow_other _ _ _ _ (by simpa using hn)]
    exact g4.block j hj

set_option maxRecDepth 20000 in
set_option maxHeartbeats 1000000 in
/-- Case A: nothing to copy, or too much: Record.clone. -/
theorem copier_apart (cb rb : Nat) (off : Int) (x y : Int) (ka da : Option Addr) (nk kc nd dc : Nat) (lk ld : List Int) (w : World)
    (hR : w.rowIs rb 34 6 (recF (.int .i64 off) (.int .u64 x) (.int .i64 y) (.pointer none) (.slice ka nk kc) (.slice da nd dc)))
    (hk : RowAt w ka nk lk) (hd : RowAt w da nd ld) (hkn : 0 < nk → ∀ x, ka = some x → x.block < w.heap.size) (hdn : 0 < nd → ∀ x, da = some x → x.block < w.heap.size) (hsm : nk + nd ≤ 1048576) (hn : nk + nd = 0 ∨ 256 < nk + nd) :
    Calls Yba.prog 7 #[.pointer (some ⟨cb, 0, none⟩), .pointer (some ⟨rb, 0, none⟩)] w fun e w' =>
      e = .returned (.tuple #[]) ∧ ∃ k, Cut ka nk kc (w.heap.size + 2) 0 k ∧ ∃ d, Cut da nd dc (w.heap.size + 2) nk d ∧ w'.rowIs rb 34 6 (recF (.int .i64 off) (.int .u64 x) (.int .i64 y) (.pointer none) k d) ∧
        Whole w' (w.heap.size + 2) (splice (splice (List.replicate (nk + nd) 0) 0 lk) nk ld) ∧ OnlyIn [rb] w w' := by
  have r4 := hR.cell (i := 4) (by omega)
  have r5 := hR.cell (i := 5) (by omega)
  simp only [recF] at r4 r5
  have HF := hid (And.intro hk (And.intro hd (And.intro hkn (And.intro hdn hR))))
  clear hk hd hkn hdn hR
  rcases hn with hn | hn
  · obtain rfl : nk = 0 := by omega
    obtain rfl : nd = 0 := by omega
    go_enter Yba.func7, Yba.ntmps7
    go_wp2
    go_quiet (fail)
    have HCa := hid (clone_any off x y ka da 0 kc 0 dc lk ld (w.drewN nq) HF.out.1 HF.out.2.1 HF.out.2.2.1 HF.out.2.2.2.1 hsm)
    go_wp2_with (first
      | (refine wpList_load_cells rfl 34 (.tmp 24) rfl ⟨rb, 0, none⟩ rfl #[.int .i64 off, .int .u64 x, .int .i64 y, .pointer none, .slice ka 0 kc, .slice da 0 dc] _ (recF_cells HF.out.2.2.2.2) Yba.underlying34 rfl Yba.size34 ?_)
      | (go_at_call 21
         refine HCa.out.mono ?_
         rintro e w' ⟨k, ck, d, cd, rfl, g1, g2⟩
         have HG := hid (And.intro ck (And.intro cd (And.intro g1 (And.intro g2 (rec_old HF.out.2.2.2.2 g2)))))
         have h1 := ck.one
         have h2 := cd.one
         clear g1 g2 ck cd)
      | (refine wpList_store_row rfl 34 (.tmp 27) (.tmp 26) rfl rb #[.int .i64 off, .int .u64 x, .int .i64 y, .pointer none, k, d] rfl rfl 34 _ HG.out.2.2.2.2 Yba.size34 rfl (rec_one h1 h2) ?_))
    (try simp only [Exit.inBlock, Exit.then])
    refine bodyPost_ret (results_none rfl _ _ _) rfl ?_
    exact ⟨rfl, apart_post HF.out.2.2.2.2 HG⟩
  · have hn0 : ¬ nk + nd = 0 := by omega
    go_enter Yba.func7, Yba.ntmps7
    go_wp2
    go_quiet (fail)
    have HCa := hid (clone_any off x y ka da nk kc nd dc lk ld (w.drewN nq) HF.out.1 HF.out.2.1 HF.out.2.2.1 HF.out.2.2.2.1 hsm)
    go_wp2_with (first
      | (refine wpList_load_cells rfl 34 (.tmp 24) rfl ⟨rb, 0, none⟩ rfl #[.int .i64 off, .int .u64 x, .int .i64 y, .pointer none, .slice ka nk kc, .slice da nd dc] _ (recF_cells HF.out.2.2.2.2) Yba.underlying34 rfl Yba.size34 ?_)
      | (go_at_call 21
         refine HCa.out.mono ?_
         rintro e w' ⟨k, ck, d, cd, rfl, g1, g2⟩
         have HG := hid (And.intro ck (And.intro cd (And.intro g1 (And.intro g2 (rec_old HF.out.2.2.2.2 g2)))))
         have h1 := ck.one
         have h2 := cd.one
         clear g1 g2 ck cd)
      | (refine wpList_store_row rfl 34 (.tmp 27) (.tmp 26) rfl rb #[.int .i64 off, .int .u64 x, .int .i64 y, .pointer none, k, d] rfl rfl 34 _ HG.out.2.2.2.2 Yba.size34 rfl (rec_one h1 h2) ?_))
    (try simp only [Exit.inBlock, Exit.then])
    refine bodyPost_ret (results_none rfl _ _ _) rfl ?_
    exact ⟨rfl, apart_post HF.out.2.2.2.2 HG⟩

theorem Whole.of_only {g rb : Nat} {w w' : World} {f : Nat} {l : List Int} (h : Whole w f l) (hO : Only g rb w w') (hf : f < w.heap.size) (h1 : f ≠ g) (h2 : f ≠ rb) : Whole w' f l := (hO.block f hf h1 h2).trans h

/-- What is left of the copier's free bytes. -/
def FreeAt (w : World) (cb f n m : Nat) : Prop := ∃ a' : Option Addr, (0 < m → a' = some ⟨f, n, none⟩) ∧ w.rowIs cb 26 1 (fun _ => .slice a' m m)

theorem OnlyIn.drewN {S : List Nat} {w w' : World} {q : Nat} (h : OnlyIn S (w.drewN q) w') : OnlyIn S w w' := ⟨h.os, h.tape, h.output, h.size, h.block⟩

theorem room_post {w w' : World} {rb cb f q : Nat} {o t0 t1 t2 : Value} {ka da : Option Addr} {nk kc nd dc n m : Nat} {l : List Int} {k d : Value} {F : Nat → Value}
    (HG : Hid (Cut ka nk kc f 0 k ∧ Cut da nd dc f nk d ∧ Whole w' f l ∧ Only f rb (w.drewN q) w' ∧ w'.rowIs rb 34 6 (recF o t0 t1 t2 k d)))
    (HC : Hid (w'.rowIs cb 26 1 F)) (hcr : cb ≠ rb) (hcf : cb ≠ f) (a' : Addr) (v : Value) (hv : v = .slice (some a') m m) (ha : 0 < m → a' = ⟨f, n, none⟩) :
    ∃ k', Cut ka nk kc f 0 k' ∧ ∃ d', Cut da nd dc f nk d' ∧ (w'.setCell ⟨cb, 0, none⟩ v).rowIs rb 34 6 (recF o t0 t1 t2 k' d') ∧
      Whole (w'.setCell ⟨cb, 0, none⟩ v) f l ∧ OnlyIn [f, rb, cb] w (w'.setCell ⟨cb, 0, none⟩ v) ∧ FreeAt (w'.setCell ⟨cb, 0, none⟩ v) cb f n m := by
  subst hv
  obtain ⟨g1, g2, g3, g4, g5⟩ := HG.out
  refine ⟨k, g1, d, g2, g5.setOther (Ne.symm hcr) _, (Go.Deep.blk_setCell_other _ _ _ _ (Ne.symm hcf)).trans g3, ((OnlyIn.of_only g4 (by simp) (by simp)).setCell (by simp) _ _).drewN, ?_⟩
  exact ⟨some a', fun h => by rw [ha h], (HC.out.set 0 _).congr fun i hi => by simp [show i = 0 by omega]⟩

set_option maxRecDepth 20000 in
set_option maxHeartbeats 1000000 in
/-- Case B: there is room. -/
theorem copier_room (cb rb f : Nat) (off : Int) (x y : Int) (ka da : Option Addr) (nk kc nd dc fl : Nat) (lk ld l : List Int) (w : World)
    (hR : w.rowIs rb 34 6 (recF (.int .i64 off) (.int .u64 x) (.int .i64 y) (.pointer none) (.slice ka nk kc) (.slice da nd dc)))
    (hC : w.rowIs cb 26 1 (fun _ => .slice (some ⟨f, 0, none⟩) fl fl)) (hW : Whole w f l) (hl : l.length = fl) (hfr : f ≠ rb) (hcr : cb ≠ rb) (hcf : cb ≠ f)
    (hk : RowAt w ka nk lk) (hd : RowAt w da nd ld) (hkn : 0 < nk → ∀ x, ka = some x → x.block ≠ f ∧ x.block ≠ rb) (hdn : 0 < nd → ∀ x, da = some x → x.block ≠ f ∧ x.block ≠ rb) (hsm : fl ≤ 1048576) (hn : 0 < nk + nd) (hn2 : nk + nd ≤ 256) (hfl : nk + nd ≤ fl) :
    Calls Yba.prog 7 #[.pointer (some ⟨cb, 0, none⟩), .pointer (some ⟨rb, 0, none⟩)] w fun e w' =>
      e = .returned (.tuple #[]) ∧ ∃ k, Cut ka nk kc f 0 k ∧ ∃ d, Cut da nd dc f nk d ∧ w'.rowIs rb 34 6 (recF (.int .i64 off) (.int .u64 x) (.int .i64 y) (.pointer none) k d) ∧
        Whole w' f (splice (splice l 0 lk) nk ld) ∧ OnlyIn [f, rb, cb] w w' ∧ FreeAt w' cb f (nk + nd) (fl - (nk + nd)) := by
  have r4 := hR.cell (i := 4) (by omega)
  have r5 := hR.cell (i := 5) (by omega)
  have c0 := hC.cell (i := 0) (by omega)
  simp only [recF] at r4 r5
  have HF := hid (fun q => copyTo_any rb f (.int .i64 off) (.int .u64 x) (.int .i64 y) (.pointer none) ka da nk kc nd dc lk ld l fl (w.drewN q) hR hW hl hfr hk hd hkn hdn hfl (by omega))
  have HC := hid hC
  clear hk hd hkn hdn hR hC hW
  have hb0 : (((nk : Int) + (nd : Int)) == 0) = false := by simp; omega
  have hb1 : decide ((256 : Int) < (nk : Int) + (nd : Int)) = false := by simp; omega
  have hb2 : ¬ ((256 : Int) < (nk : Int) + (nd : Int)) := by omega
  have hb3 : ¬ ((fl : Int) < (nk : Int) + (nd : Int)) := by omega
  have hb4 : decide ((fl : Int) < (nk : Int) + (nd : Int)) = false := by simp; omega
  go_enter Yba.func7, Yba.ntmps7
  go_wp2
  go_quiet (fail)
  go_wp2_with (go_at_call 22
               refine (HF.out nq).mono ?_
               rintro e w' ⟨rfl, g1, g2, k, ck, d, cd, g3⟩
               have HG := hid (And.intro ck (And.intro cd (And.intro g1 (And.intro g2 g3))))
               have hcc : w'.rowIs cb 26 1 (fun _ => .slice (some ⟨f, 0, none⟩) fl fl) := HC.out.of_block (g2.block cb HC.out.lt hcf hcr)
               have c1 := hcc.cell (i := 0) (by omega)
               have cf := hcc.frozen 0
               have HCC := hid hcc
               clear g1 g2 g3 ck cd hcc)
  all_goals go_end0
  all_goals refine ⟨rfl, room_post HG HCC hcr hcf _ _ rfl ?_⟩
  all_goals (intro h; first | rfl | (exfalso; omega))

/-- The world as copyTo finds it in case C. -/
abbrev FreshW (cb nk nd : Nat) (w : World) (q : Nat) : World :=
  ((w.drewN q).alloc (.cells (madeCells #[.int .u8 0] (4 * (nk + nd))) 5)).setCell ⟨cb, 0, none⟩ (.slice (some ⟨w.heap.size, 0, none⟩) (4 * (nk + nd)) (4 * (nk + nd)))

theorem fresh_pre {cb rb : Nat} {o t0 t1 t2 : Value} {F : Nat → Value} {ka da : Option Addr} {nk kc nd dc : Nat} {lk ld : List Int} {w : World} (q : Nat)
    (hR : w.rowIs rb 34 6 (recF o t0 t1 t2 (.slice ka nk kc) (.slice da nd dc))) (hC : w.rowIs cb 26 1 F) (hcr : cb ≠ rb)
    (hk : RowAt w ka nk lk) (hd : RowAt w da nd ld) (hkn : 0 < nk → ∀ x, ka = some x → x.block < w.heap.size ∧ x.block ≠ cb ∧ x.block ≠ rb) (hdn : 0 < nd → ∀ x, da = some x → x.block < w.heap.size ∧ x.block ≠ cb ∧ x.block ≠ rb) :
    (FreshW cb nk nd w q).rowIs rb 34 6 (recF o t0 t1 t2 (.slice ka nk kc) (.slice da nd dc)) ∧ Whole (FreshW cb nk nd w q) w.heap.size (List.replicate (4 * (nk + nd)) 0) ∧ w.heap.size ≠ rb ∧
      RowAt (FreshW cb nk nd w q) ka nk lk ∧ RowAt (FreshW cb nk nd w q) da nd ld ∧ (0 < nk → ∀ x, ka = some x → x.block ≠ w.heap.size ∧ x.block ≠ rb) ∧ (0 < nd → ∀ x, da = some x → x.block ≠ w.heap.size ∧ x.block ≠ rb) ∧
      (FreshW cb nk nd w q).rowIs cb 26 1 (fun _ => .slice (some ⟨w.heap.size, 0, none⟩) (4 * (nk + nd)) (4 * (nk + nd))) ∧ OnlyIn [cb] w (FreshW cb nk nd w q) := by
  have hR' : (w.drewN q).rowIs rb 34 6 (recF o t0 t1 t2 (.slice ka nk kc) (.slice da nd dc)) := hR
  have hC' : (w.drewN q).rowIs cb 26 1 F := hC
  have hO : OnlyIn [cb] w (FreshW cb nk nd w q) := (((OnlyIn.refl [cb] (w.drewN q)).alloc _).setCell (by simp) _ _).drewN
  have l1 := hR.lt
  have l2 := hC.lt
  refine ⟨(hR'.alloc _).setOther (Ne.symm hcr) _, (Go.Deep.blk_setCell_other _ _ _ _ (Nat.ne_of_gt l2)).trans (made_whole (w.drewN q) _), Nat.ne_of_gt l1,
    hk.onlyIn hO (fun hp x hx => by simpa using (hkn hp x hx).2.1), hd.onlyIn hO (fun hp x hx => by simpa using (hdn hp x hx).2.1), fun hp x hx => ⟨Nat.ne_of_lt (hkn hp x hx).1, (hkn hp x hx).2.2⟩, fun hp x hx => ⟨Nat.ne_of_lt (hdn hp x hx).1, (hdn hp x hx).2.2⟩,
    ((hC'.alloc _).set 0 _).congr fun i hi => by simp [show i = 0 by omega], hO⟩

theorem fresh_post {w w' : World} {rb cb q : Nat} {o t0 t1 t2 : Value} {ka da : Option Addr} {nk kc nd dc : Nat} {l : List Int} {k d : Value} {F : Nat → Value}
    (HN : Hid (cb ≠ rb ∧ cb < w.heap.size)) (ck : Cut ka nk kc w.heap.size 0 k) (cd : Cut da nd dc w.heap.size nk d) (g1 : Whole w' w.heap.size l) (g2 : Only w.heap.size rb (FreshW cb nk nd w q) w') (g3 : w'.rowIs rb 34 6 (recF o t0 t1 t2 k d))
    (hO : OnlyIn [cb] w (FreshW cb nk nd w q)) (hC : w'.rowIs cb 26 1 F) :
    ∃ k', Cut ka nk kc w.heap.size 0 k' ∧ ∃ d', Cut da nd dc w.heap.size nk d' ∧ (w'.setCell ⟨cb, 0, none⟩ (.slice (some ⟨w.heap.size, nk + nd, none⟩) (3 * (nk + nd)) (3 * (nk + nd)))).rowIs rb 34 6 (recF o t0 t1 t2 k' d') ∧
      Whole (w'.setCell ⟨cb, 0, none⟩ (.slice (some ⟨w.heap.size, nk + nd, none⟩) (3 * (nk + nd)) (3 * (nk + nd)))) w.heap.size l ∧ OnlyIn [rb, cb] w (w'.setCell ⟨cb, 0, none⟩ (.slice (some ⟨w.heap.size, nk + nd, none⟩) (3 * (nk + nd)) (3 * (nk + nd)))) ∧
      (w'.setCell ⟨cb, 0, none⟩ (.slice (some ⟨w.heap.size, nk + nd, none⟩) (3 * (nk + nd)) (3 * (nk + nd)))).rowIs cb 26 1 (fun _ => .slice (some ⟨w.heap.size, nk + nd, none⟩) (3 * (nk + nd)) (3 * (nk + nd))) := by
  obtain ⟨h1, h2⟩ := HN.out
  refine ⟨k, ck, d, cd, g3.setOther (Ne.symm h1) _, (Go.Deep.blk_setCell_other _ _ _ _ (Nat.ne_of_gt h2)).trans g1, OnlyIn.setCell (S := [rb, cb]) ⟨g2.os.trans hO.os, g2.tape.trans hO.tape, g2.output.trans hO.output, Nat.le_trans hO.size g2.size, fun j h3 h4 => ?_⟩ (by simp) _ _, (hC.set 0 _).congr fun i hi => by simp [show i = 0 by omega]⟩
  simp only [List.mem_cons, List.not_mem_nil, or_false, not_or] at h4
  exact (g2.block j (Nat.lt_of_lt_of_le h3 hO.size) (Nat.ne_of_lt h3) h4.1).trans (hO.block j h3 (by simpa using h4.2))

set_option maxRecDepth 20000 in
set_option maxHeartbeats 1000000 in
/-- Case C: there is none. -/
theorem copier_fresh (cb rb : Nat) (off : Int) (x y : Int) (fa ka da : Option Addr) (nk kc nd dc fl fc : Nat) (lk ld : List Int) (w : World)
    (hR : w.rowIs rb 34 6 (recF (.int .i64 off) (.int .u64 x) (.int .i64 y) (.pointer none) (.slice ka nk kc) (.slice da nd dc)))
    (hC : w.rowIs cb 26 1 (fun _ => .slice fa fl fc)) (hcr : cb ≠ rb)
    (hk : RowAt w ka nk lk) (hd : RowAt w da nd ld) (hkn : 0 < nk → ∀ x, ka = some x → x.block < w.heap.size ∧ x.block ≠ cb ∧ x.block ≠ rb) (hdn : 0 < nd → ∀ x, da = some x → x.block < w.heap.size ∧ x.block ≠ cb ∧ x.block ≠ rb) (hn : 0 < nk + nd) (hn2 : nk + nd ≤ 256) (hfl : fl < nk + nd) :
    Calls Yba.prog 7 #[.pointer (some ⟨cb, 0, none⟩), .pointer (some ⟨rb, 0, none⟩)] w fun e w' =>
      e = .returned (.tuple #[]) ∧ ∃ k, Cut ka nk kc w.heap.size 0 k ∧ ∃ d, Cut da nd dc w.heap.size nk d ∧ w'.rowIs rb 34 6 (recF (.int .i64 off) (.int .u64 x) (.int .i64 y) (.pointer none) k d) ∧
        Whole w' w.heap.size (splice (splice (List.replicate (4 * (nk + nd)) 0) 0 lk) nk ld) ∧ OnlyIn [rb, cb] w w' ∧ w'.rowIs cb 26 1 (fun _ => .slice (some ⟨w.heap.size, nk + nd, none⟩) (3 * (nk + nd)) (3 * (nk + nd))) := by
  have r4 := hR.cell (i := 4) (by omega)
  have r5 := hR.cell (i := 5) (by omega)
  have c0 := hC.cell (i := 0) (by omega)
  have cf := hC.frozen 0
  simp only [recF] at r4 r5
  have HR := hid hR
  have hb0 : (((nk : Int) + (nd : Int)) == 0) = false := by simp; omega
  have hb1 : decide ((256 : Int) < (nk : Int) + (nd : Int)) = false := by simp; omega
  have hb2 : ¬ ((256 : Int) < (nk : Int) + (nd : Int)) := by omega
  have hb3 : ((fl : Int) < (nk : Int) + (nd : Int)) := by omega
  have hb4 : decide ((fl : Int) < (nk : Int) + (nd : Int)) = true := by simp; omega
  have hmk := run_make_row' (P := Yba.prog) 22 5 (.int .u8 0) 1 Yba.underlying22 Yba.info5 rfl .i64 .i64 (4 * (nk + nd)) (by omega) (by omega)
  push_cast at hmk
  have hfz : ∀ q, ((w.drewN q).alloc (.cells (madeCells #[.int .u8 0] (4 * (nk + nd))) 5)).frozen? ⟨cb, 0, none⟩ = false := fun q => (World.rowIs.alloc (w := w.drewN q) hC _).frozen 0
  have hcl : ∀ q, ((w.drewN q).alloc (.cells (madeCells #[.int .u8 0] (4 * (nk + nd))) 5)).cell? ⟨cb, 0, none⟩ = some (.slice fa fl fc) := fun q => (World.rowIs.alloc (w := w.drewN q) hC _).cell (i := 0) (by omega)
  have HP := hid (fun q => fresh_pre q hR hC hcr hk hd hkn hdn)
  have HF := hid (fun q => copyTo_any rb w.heap.size (.int .i64 off) (.int .u64 x) (.int .i64 y) (.pointer none) ka da nk kc nd dc lk ld (List.replicate (4 * (nk + nd)) 0) (4 * (nk + nd)) (FreshW cb nk nd w q)
    (HP.out q).1 (HP.out q).2.1 (by simp) (HP.out q).2.2.1 (HP.out q).2.2.2.1 (HP.out q).2.2.2.2.1 (HP.out q).2.2.2.2.2.1 (HP.out q).2.2.2.2.2.2.1 (by omega) (by omega))
  have hne : ¬ 4 * (nk + nd) = nk + nd := by omega
  have hle4 : nk + nd ≤ 4 * (nk + nd) := by omega
  have e3 : 4 * (nk + nd) - (nk + nd) = 3 * (nk + nd) := by omega
  have HN := hid (And.intro hcr hC.lt)
  clear hR hC hk hd hkn hdn
  go_enter Yba.func7, Yba.ntmps7
  go_wp2
  go_quiet (fail)
  go_wp2_with (go_at_call 22
               refine (HF.out nq).mono ?_
               rintro e w' ⟨rfl, g1, g2, k, ck, d, cd, g3⟩
               have hcc : w'.rowIs cb 26 1 (fun _ => .slice (some ⟨w.heap.size, 0, none⟩) (4 * (nk + nd)) (4 * (nk + nd))) := (HP.out nq).2.2.2.2.2.2.2.1.of_block (g2.block cb (HP.out nq).2.2.2.2.2.2.2.1.lt (Nat.ne_of_lt HN.out.2) HN.out.1)
               have c1 := hcc.cell (i := 0) (by omega)
               have cf1 := hcc.frozen 0
               have HG := hid (fresh_post HN ck cd g1 g2 g3 (HP.out nq).2.2.2.2.2.2.2.2 hcc)
               clear g1 g2 g3 ck cd hcc)
  all_goals go_end0
  all_goals exact ⟨rfl, HG.out⟩
end Go.Proofs.Ybulkdxzq
