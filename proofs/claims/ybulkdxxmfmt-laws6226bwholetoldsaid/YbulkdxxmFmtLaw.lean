/-
  The law.
-/
import Derived.Test.YbulkdxxmFmtTell
import Derived.Deep.LoopGhost
namespace Go.Proofs.YbulkdxxmFmt
open Go.RowKit Go.Extern.Stop Go.Stop Go.Extern

/-- A nil function goes into a cell as every value of one cell does. -/
theorem run_store_nilFunc {P : Program} {w : World} {a : Addr} {m : Mode} : (store a .nilFunc m).run P w = stored P w a .nilFunc m := run_store P w a _ m rfl
attribute [local go_sem] run_store_nilFunc

/-- The law's box: what lies from block N on. -/
def theBox (fb N L ro fz po nf sz fa : Nat) (big mapped : Bool) : Box :=
  { tb := N + 1 + 1 + 1 + 1 + 1, lb := N + 1 + 1 + 1 + 1, ib := N + 1 + 1, rb := N + 1 + 1 + 1, fb := fb, db := N + 1, sb := N, L := L, roff := ro, filesz := fz, poff := po, nf := nf, sz := sz, fail := fa, big := big, mapped := mapped,
    txt := ⟨#[122, 122, 115, 54, 50, 50, 54, 98]⟩ }

/-- What stands behind the call of extent. -/
structure Stand (w : World) (x : Box) (fl : List Int) (sg k : Nat) (w' : World) : Prop where
  env : Env x fl k w'
  snap : ∀ i, i < x.L → w'.cell? ⟨sg, i, none⟩ = some (.int .u8 (fl.getD i 0))
  low : Below w.heap.size w w'

theorem Stand.below {w : World} {x : Box} {fl : List Int} {sg k : Nat} {w1 w2 : World} (hx : x.Ok) (h : Stand w x fl sg k w1) (hb : Below w1.heap.size w1 w2) : Stand w x fl sg k w2 :=
  ⟨h.env.below hx hb, fun i hi => cell_later hb (h.snap i hi), h.low.trans (hb.mono h.low.size)⟩

/-- The file's row: bytes, whatever they are. -/
def Bytes (fb L : Nat) (w0 w : World) : Prop := ∃ f : Nat → Int, (∀ j, 0 ≤ f j ∧ f j ≤ 255) ∧ w.rowIs fb 5 L (fun j => .int .u8 (f j)) ∧ Below fb w0 w

theorem Bytes.cell {fb L : Nat} {w0 w : World} (h : Bytes fb L w0 w) {i : Nat} (hi : i < L) : ∃ v : Int, 0 ≤ v ∧ v ≤ 255 ∧ w.cell? ⟨fb, i, none⟩ = some (.int .u8 v) := by
  obtain ⟨f, hf, hr, _⟩ := h
  exact ⟨f i, (hf i).1, (hf i).2, hr.cell hi⟩
theorem Bytes.frozen {fb L : Nat} {w0 w : World} (h : Bytes fb L w0 w) (i : Nat) : w.frozen? ⟨fb, i, none⟩ = false := by
  obtain ⟨f, hf, hr, _⟩ := h
  exact hr.frozen i
theorem Bytes.set {fb L : Nat} {w0 w : World} (h : Bytes fb L w0 w) (i : Nat) {v : Int} (h0 : 0 ≤ v) (h1 : v ≤ 255) : Bytes fb L w0 (w.setCell ⟨fb, i, none⟩ (.int .u8 v)) := by
  obtain ⟨f, hf, hr, hb⟩ := h
  refine ⟨fun j => if j = i then v else f j, fun j => ?_, ?_, hb.setCell (Nat.le_refl _) _⟩
  · by_cases hj : j = i
    · simp only [hj, if_true]; exact ⟨h0, h1⟩
    · simp only [hj, if_false]; exact hf j
  · exact (hr.set i (.int .u8 v)).congr fun j _ => by by_cases hj : j = i <;> simp [hj]

set_option maxRecDepth 100000 in
theorem new_any (s : ByteArray) (w : World) : Calls Ybaf.prog 5 #[.string s] w fun e w' => e = .returned (.iface 67 (.pointer (some ⟨w.heap.size, 0, none⟩))) ∧ w' = w.alloc (.cells #[.string s] 69) := by
  go_enter Ybaf.func5, Ybaf.ntmps5
  go_wp2
  go_ret
  exact ⟨rfl, rfl⟩

/-- The file's bytes as a list. -/
theorem Bytes.list {fb L : Nat} {w0 w : World} (h : Bytes fb L w0 w) : ∃ l : List Int, l.length = L ∧ (∀ i, 0 ≤ l.getD i 0 ∧ l.getD i 0 ≤ 255) ∧ (∀ i, i < L → w.cell? ⟨fb, i, none⟩ = some (.int .u8 (l.getD i 0))) ∧ Below fb w0 w := by
  obtain ⟨f, hf, hr, hb⟩ := h
  have e : ∀ i, i < L → ((List.range L).map f).getD i 0 = f i := fun i hi => by simp [List.getD, hi]
  refine ⟨(List.range L).map f, by simp, fun i => ?_, fun i hi => by rw [e i hi]; exact hr.cell hi, hb⟩
  by_cases hi : i < L
  · rw [e i hi]; exact hf i
  · have h0 : ((List.range L).map f).getD i 0 = 0 := by rw [List.getD, List.getElem?_eq_none (by simp; omega)]; rfl
    rw [h0]; exact ⟨Int.le_refl 0, by decide⟩

theorem may_zero {fb N L ro fz po nf sz fa : Nat} {big : Bool} (h : (theBox fb N L ro fz po nf sz fa big false).may 0) : fa ≠ 0 := by
  rcases h with h | ⟨_, h, _⟩
  · cases h
  · exact fun e => h e.symm
theorem may_one {fb N L ro fz po nf sz fa : Nat} {big : Bool} (h : (theBox fb N L ro fz po nf sz fa big false).may ((theBox fb N L ro fz po nf sz fa big false).next 0)) : fa ≠ 1 := by
  rcases h with h | ⟨_, h, _⟩
  · cases h
  · exact fun e => h e.symm

/-- The bounds of the box's numbers. -/
structure Small (x : Box) : Prop where
  a : 200 ≤ x.L
  b : x.L ≤ 2000000
  c : x.roff < 16
  d : x.poff < 16
  e : x.filesz ≤ 2000000
  f : x.nf < 12
  g : x.sz = 40 ∨ x.sz = 44
  h : x.fail < 3

theorem box_ok (fb N L ro fz po nf sz fa : Nat) (big mapped : Bool) (hf : fb < N) (h2 : 2 < fb) (h3 : 200 ≤ L) (h4 : L ≤ 2000000) (h5 : ro < 16) (h6 : po < 16) (h7 : fz ≤ 2000000) (h8 : nf < 12) (h9 : sz = 40 ∨ sz = 44) (h10 : fa < 3) :
    (theBox fb N L ro fz po nf sz fa big mapped).Ok :=
  ⟨by show N + 1 + 1 + 1 + 1 + 1 ≠ N + 1; omega, by show N + 1 + 1 + 1 + 1 ≠ N + 1; omega, by show N + 1 + 1 ≠ N + 1; omega, by show N + 1 + 1 + 1 ≠ N + 1; omega, by show fb ≠ N + 1; omega, by show N ≠ N + 1; omega, by show 2 ≠ N + 1; omega,
    h3, h4, h5, h6, h7, h8, by show 40 ≤ sz; omega, by show sz ≤ 44; omega, h10⟩

/-- The call of extent in the law. -/
theorem call_ext (F : Interp) (w V : World) (x : Box) (fl : List Int) (sg fd : Nat) (hF : F.answers w.tape) (h1 : x.sb = V.heap.size) (h2 : x.db = V.heap.size + 1) (h3 : x.ib = V.heap.size + 1 + 1) (h4 : x.rb = V.heap.size + 1 + 1 + 1) (h5 : x.lb = V.heap.size + 1 + 1 + 1 + 1)
    (h6 : x.tb = V.heap.size + 1 + 1 + 1 + 1 + 1) (hfb : x.fb = w.heap.size) (hlt : w.heap.size < V.heap.size) (hw2 : 2 < w.heap.size) (hsm : Small x) (hfd : fd < 32) (hp1 : 0 < x.nf → x.poff + (fd + 8 * x.nf - 4) + 4 ≤ x.held) {U : World}
    (hb0 : Below w.heap.size w U) (hb1 : Below U.heap.size U V) (hby : ∀ i, 0 ≤ fl.getD i 0 ∧ fl.getD i 0 ≤ 255) (hfc : ∀ i, i < x.L → V.cell? ⟨x.fb, i, none⟩ = some (.int .u8 (fl.getD i 0))) (hsn : ∀ i, i < x.L → V.cell? ⟨sg, i, none⟩ = some (.int .u8 (fl.getD i 0)))
    (heof : ∃ a, V.cell? ⟨2, 0, none⟩ = some (.iface 67 (.pointer (some a)))) :
    Calls Ybaf.prog 6 #[.pointer (some ⟨V.heap.size + 1 + 1 + 1 + 1 + 1, 0, none⟩), .int .u64 fd] (x.laid V) fun e w' => ∃ v1 v2 k, e = .returned (.tuple #[v1, v2]) ∧ Stand w x fl sg k w' ∧ Tell x fl fd v1 v2 k w' := by
  have hbl := (laid_rows x V).1
  have hbV : Below w.heap.size w V := hb0.trans (hb1.mono hb0.size)
  have hbW : Below w.heap.size w (x.laid V) := hbV.trans (hbl.mono hbV.size)
  have hx : x.Ok := ⟨by omega, by omega, by omega, by omega, by omega, by omega, by omega, hsm.a, hsm.b, hsm.c, hsm.d, hsm.e, hsm.f, by have := hsm.g; omega, by have := hsm.g; omega, hsm.h⟩
  have hE := env_new x fl V h1 h2 h3 h4 h5 h6 hfc hby heof
  rw [← h6]
  refine (ext_any F x fl fd (x.laid V) (by rw [hbW.tape]; exact hF) hx hE hsm.g hfd hp1).mono ?_
  rintro e w' ⟨v1, v2, k, g1, g2, g3⟩
  refine ⟨v1, v2, k, g1, ⟨hE.kept hx g2, fun i hi => ?_, ?_⟩, g3⟩
  · refine g2.cell (cell_later hbl (hsn i hi)) ?_
    show sg ≠ x.db
    have : sg < V.heap.size := World.block_lt_of_cell? _ _ (hsn i hi)
    omega
  · refine hbW.trans (g2.below (by omega) ?_)
    exact Nat.le_trans hbV.size hbl.size

set_option maxRecDepth 100000 in
set_option maxHeartbeats 8000000 in
theorem law_any (F : Interp) (a : Option Addr) (dl cap : Nat) (l : List Int) (N FD PO RO RE SL LY FA L : Nat) (Short Big Mapped : Bool) (w : World) (hF : F.answers w.tape)
    (hN : N ≤ 255) (hFD : FD ≤ 255) (hPO : PO ≤ 255) (hRO : RO ≤ 255) (hRE : RE ≤ 255) (hSL : SL ≤ 255) (hLY : LY ≤ 255) (hFA : FA ≤ 255)
    (hdl : dl ≤ 1048576) (hL : dl + 200 = L) (hrow : 0 < dl → ∃ b o, a = some ⟨b, o, none⟩ ∧ b < w.heap.size ∧ ∀ i, i < dl → w.cell? ⟨b, o + i, none⟩ = some (.int .u8 (l.getD i 0))) (hby : ∀ i, 0 ≤ l.getD i 0 ∧ l.getD i 0 ≤ 255)
    (heof : ∃ a, w.cell? ⟨2, 0, none⟩ = some (.iface 67 (.pointer (some a)))) :
    Calls Ybaf.prog 3 #[.slice a dl cap, .int .u8 N, .int .u8 FD, .int .u8 PO, .int .u8 RO, .int .u8 RE, .bool Short, .int .u8 SL, .int .u8 LY, .bool Big, .bool Mapped, .int .u8 FA] w
      fun e w' => e = .returned (.bool true) ∧ Below w.heap.size w w' := by
  have hmk : (Instr.makeSlice 22 (.int .i64 ((dl : Int) + 200)) (.int .i64 ((dl : Int) + 200))).run Ybaf.prog w = .ok (.slice (some ⟨w.heap.size, 0, none⟩) L L) (w.alloc (.cells (madeCells #[.int .u8 0] L) 5)) := by
    rw [show (dl : Int) + 200 = (L : Int) by omega]
    exact run_make_row' (P := Ybaf.prog) 22 5 (.int .u8 0) 1 Ybaf.underlying22 Ybaf.info5 rfl .i64 .i64 L (by omega) (by omega) w
  have HB := hid (p := Bytes w.heap.size L w (w.alloc (.cells (madeCells #[.int .u8 0] L) 5))) ⟨fun _ => 0, fun _ => ⟨Int.le_refl 0, by show (0 : Int) ≤ 255; decide⟩, World.rowIs_made w _ L 5, (Below.refl _ _).alloc (Nat.le_refl _) _⟩
  have HROW := hid hrow
  have HEOF := hid heof
  have HF := hid hF
  have HBY := hid hby
  have hLL : L ≤ 1048776 := by omega
  have hL2 : 200 ≤ L := by omega
  clear hrow hby heof hF
  go_enter Ybaf.func3, Ybaf.ntmps3
  go_wp2
  go_loopw [70, 28] (fun i i28 wr => ∃ k : Nat, k ≤ L ∧ i = .int .i64 k ∧ Bytes w.heap.size L w wr) (fun i _ _ => L - (intOf i).toNat)
  case atStart => exact ⟨0, Nat.zero_le _, rfl, HB.out⟩
  case round =>
    obtain ⟨k, hk, rfl, hB⟩ := hrel
    by_cases hlt : k < L
    · obtain ⟨v0, hv0, hv1, hck⟩ := hB.cell hlt
      have hfk := hB.frozen k
      have HB2 := hid hB
      clear hB
      by_cases h0 : 0 < dl
      · obtain ⟨b, o, rfl, hb, hcs⟩ := HROW.out h0
        have hm : k % dl < dl := Nat.mod_lt _ h0
        have hcm := hcs (k % dl) hm
        have hbm := HBY.out (k % dl)
        have hcm2 : wr.cell? ⟨b, o + k % dl, none⟩ = some (.int .u8 (l.getD (k % dl) 0)) := by
          obtain ⟨f, _, _, hbel⟩ := HB2.out
          rw [hbel.cell (by exact hb)]; exact hcm
        clear hcs hcm
        generalize l.getD (k % dl) 0 = y at *
        go_wp2
        go_roundw
        case rel => exact ⟨k + 1, by omega, by go_num, HB2.out.set k (by omega) (by omega)⟩
        case measure => simp [intOf]; omega
      · obtain rfl : dl = 0 := by omega
        clear h0
        go_wp2
        go_roundw
        case rel => exact ⟨k + 1, by omega, by go_num, HB2.out.set k (by omega) (by omega)⟩
        case measure => simp [intOf]; omega
    · have HB2 := hid hB
      clear hB HROW hmk HB HBY
      obtain rfl : L = k := by omega
      clear hlt hk
      go_upto_if 106 with fail
      go_cut [26, 29, 30, 31, 32, 33] from 104 to 106 (fun s26 s29 s30 s31 s32 s33 wc => s26 = .int .i64 L ∧ ∃ nf fd po ro sz : Nat, nf < 12 ∧ fd < 32 ∧ po < 16 ∧ ro < 16 ∧ (sz = 40 ∨ sz = 44) ∧ s29 = .int .i64 nf ∧ s30 = .int .u64 fd ∧ s31 = .int .u64 po ∧ s32 = .int .u64 ro ∧ s33 = .int .u64 sz ∧ Bytes w.heap.size L w wc)
      case first =>
        have HZ := hid (p := ∀ sz : Nat, (sz = 40 ∨ sz = 44) → (Value.int .i64 ((dl : Int) + 200) = .int .i64 L ∧ ∃ nf fd po ro sz' : Nat, nf < 12 ∧ fd < 32 ∧ po < 16 ∧ ro < 16 ∧ (sz' = 40 ∨ sz' = 44) ∧ Value.int .i64 ((N : Int) % 12) = .int .i64 nf ∧ Value.int .u64 ((FD : Int) % 32) = .int .u64 fd ∧ Value.int .u64 ((PO : Int) % 16) = .int .u64 po ∧ Value.int .u64 ((RO : Int) % 16) = .int .u64 ro ∧ Value.int .u64 (sz : Int) = .int .u64 sz' ∧ Bytes w.heap.size L w wr))
          fun sz hsz => ⟨congrArg (Value.int .i64) (by omega), N % 12, FD % 32, PO % 16, RO % 16, sz, Nat.mod_lt _ (by decide), Nat.mod_lt _ (by decide), Nat.mod_lt _ (by decide), Nat.mod_lt _ (by decide), hsz, congrArg (Value.int .i64) (by omega), congrArg (Value.int .u64) (by omega), congrArg (Value.int .u64) (by omega), congrArg (Value.int .u64) (by omega), rfl, HB2.out⟩
        by_cases hLy : (LY : Int) % 2 = 1
        · have hq : ((LY : Int) % 2 == 1) = true := beq_iff_eq.2 hLy
          go_wp2_with fail
          go_meet
          exact HZ.out 44 (Or.inr rfl)
        · have hq : ((LY : Int) % 2 == 1) = false := beq_eq_false_iff_ne.2 hLy
          clear hLy
          go_wp2_with fail
          go_meet
          exact HZ.out 40 (Or.inl rfl)
      case rest =>
        obtain ⟨rfl, nf, fd, po, ro, sz, hnf, hfd, hpo, hro, hsz, rfl, rfl, rfl, rfl, rfl, hB⟩ := hcut
        have HB3 := hid hB
        have HSZ := hid hsz
        clear hB HB2 hL hsz
        go_upto_if 112 with fail
        go_cut [35, 36, 37, 38] from 111 to 112 (fun s35 s36 _ _ wc => ∃ fz f1 : Nat, s35 = .int .u64 fz ∧ s36 = .int .u64 f1 ∧ ((nf = 0 ∧ fz = L) ∨ (0 < nf ∧ f1 = po + fd + 8 * nf - 4 ∧ (fz = L ∨ (f1 + 4 ≤ fz ∧ fz ≤ f1 + 67)))) ∧ Bytes w.heap.size L w wc)
        case first =>
          by_cases h0 : 0 < nf
          · obtain ⟨f1, hf1⟩ : ∃ f1 : Nat, f1 = po + fd + 8 * nf - 4 := ⟨_, rfl⟩
            obtain ⟨pos, hps⟩ : ∃ pos : Nat, pos = ro + f1 := ⟨_, rfl⟩
            have HF1 := hid hf1
            have hf2 : f1 < 140 := by omega
            have hp2 : pos < 160 := by omega
            have HP := hid hps
            have HW1 := hid (p := (po : Int) + fd + 8 * nf - 4 = f1) (by omega)
            have HW2 := hid (p := (ro : Int) + f1 = pos) (by omega)
            clear hf1 hps
            go_upto_region 24 with fail
            go_cut [36] from 36 to 36 (fun s36 wc' => s36 = .int .u64 f1 ∧ wc' = wc)
            case first =>
              go_wp2_with fail
              go_meet
              exact ⟨congrArg (Value.int .u64) HW1.out, rfl⟩
            case rest =>
              obtain ⟨rfl, rfl⟩ := hcut
              go_upto_region 25 with fail
              go_cut [37] from 37 to 37 (fun s37 wc' => s37 = .int .u64 pos ∧ wc' = wc)
              case first =>
                go_wp2_with fail
                go_meet
                exact ⟨congrArg (Value.int .u64) HW2.out, rfl⟩
              case rest =>
                obtain ⟨rfl, rfl⟩ := hcut
                have hfz := HB3.out.frozen
                obtain ⟨v0, _, _, c0⟩ := HB3.out.cell (i := pos) (by omega)
                obtain ⟨v1, _, _, d1⟩ := HB3.out.cell (i := pos + 1) (by omega)
                obtain ⟨v2, _, _, d2⟩ := HB3.out.cell (i := pos + 2) (by omega)
                obtain ⟨v3, _, _, d3⟩ := HB3.out.cell (i := pos + 3) (by omega)
                have c1 : ∀ u0, (wc.setCell ⟨w.heap.size, pos, none⟩ u0).cell? ⟨w.heap.size, pos + 1, none⟩ = some (.int .u8 v1) := fun u0 => by rw [World.cell?_setCell_other _ _ _ _ (by simp)]; exact d1
                have c2 : ∀ u0 u1, ((wc.setCell ⟨w.heap.size, pos, none⟩ u0).setCell ⟨w.heap.size, pos + 1, none⟩ u1).cell? ⟨w.heap.size, pos + 2, none⟩ = some (.int .u8 v2) := fun u0 u1 => by
                  rw [World.cell?_setCell_other _ _ _ _ (by simp), World.cell?_setCell_other _ _ _ _ (by simp)]; exact d2
                have c3 : ∀ u0 u1 u2, (((wc.setCell ⟨w.heap.size, pos, none⟩ u0).setCell ⟨w.heap.size, pos + 1, none⟩ u1).setCell ⟨w.heap.size, pos + 2, none⟩ u2).cell? ⟨w.heap.size, pos + 3, none⟩ = some (.int .u8 v3) := fun u0 u1 u2 => by
                  rw [World.cell?_setCell_other _ _ _ _ (by simp), World.cell?_setCell_other _ _ _ _ (by simp), World.cell?_setCell_other _ _ _ _ (by simp)]; exact d3
                clear d1 d2 d3
                go_upto_if 125 with fail
                go_cut [38] from 125 to 125 (fun _ wc' => Bytes w.heap.size L w wc')
                case first =>
                  cases Big
                  · go_wp2_with fail
                    go_meet
                    exact (((HB3.out.set pos (by omega) (by omega)).set (pos + 1) (by omega) (by omega)).set (pos + 2) (by omega) (by omega)).set (pos + 3) (by omega) (by omega)
                  · go_wp2_with fail
                    go_meet
                    exact (((HB3.out.set pos (by omega) (by omega)).set (pos + 1) (by omega) (by omega)).set (pos + 2) (by omega) (by omega)).set (pos + 3) (by omega) (by omega)
                case rest =>
                  have HB4 := hid hcut
                  clear hcut
                  cases Short
                  · go_wp2_with fail
                    go_meet
                    exact ⟨L, f1, rfl, rfl, Or.inr ⟨h0, HF1.out, Or.inl rfl⟩, HB4.out⟩
                  · go_wp2_with fail
                    go_meet
                    exact ⟨f1 + 4 + SL % 64, f1, congrArg (Value.int .u64) (by omega), rfl, Or.inr ⟨h0, HF1.out, Or.inr ⟨by omega, by omega⟩⟩, HB4.out⟩
          · have h1 : nf = 0 := by omega
            clear h0
            subst h1
            go_wp2_with fail
            go_meet
            exact ⟨L, 0, rfl, rfl, Or.inl ⟨by first | trivial | rfl, rfl⟩, HB3.out⟩
        case rest =>
          obtain ⟨fz, f1, rfl, rfl, hcase, hB4⟩ := hcut
          clear HB3
          obtain ⟨fl, hfl, hfb, hfc, hbel⟩ := hB4.list
          have HBEL := hid hbel
          have HFB := hid hfb
          have HFL := hid hfl
          have HCASE := hid hcase
          have hfz2 : fz ≤ 1048776 := by omega
          have HCL := hid (clone_any w.heap.size L fl wc hfl (by omega) (by omega) hfc)
          have HFC := hid hfc
          have heq : ∃ a9, wc.cell? ⟨2, 0, none⟩ = some (.iface 67 (.pointer (some a9))) := by
            obtain ⟨a9, h9⟩ := HEOF.out
            exact ⟨a9, (hbel.cell (World.block_lt_of_cell? _ _ h9)).trans h9⟩
          have HEQ := hid heq
          clear hB4 hbel hfb hfl hcase hfc heq
          obtain ⟨fa, hfa3, hfa⟩ : ∃ fa : Nat, fa < 3 ∧ (FA : Int) % 3 = fa := ⟨FA % 3, Nat.mod_lt _ (by decide), by omega⟩
          have hsz3 : sz < 100 := by have := HSZ.out; omega
          have h2 : 2 < w.heap.size := by obtain ⟨a9, h9⟩ := HEOF.out; exact World.block_lt_of_cell? _ _ h9
          obtain ⟨E0, hE0⟩ : ∃ E0 : Nat, E0 = fd + 8 * nf + 8 := ⟨_, rfl⟩
          have HE0 := hid (p := (fd : Int) + 8 * nf + 8 = E0) (by omega)
          have hE2 : E0 < 200 := by omega
          have HE1 := hid hE0
          clear hE0
          obtain ⟨hd, hhd⟩ : ∃ hd : Nat, hd = min fz (L - ro) := ⟨_, rfl⟩
          have HHD := hid hhd
          have hhd2 : hd ≤ 1048776 := by omega
          clear hhd
          go_upto_region 39 with (go_at_call 4; (with_reducible refine HCL.out.mono ?_); rintro e w1 ⟨sg, cap2, rfl, hcp1, hcp2, hsg, hsn, hb1⟩; have HSG := hid hsg; have HSN := hid hsn; have HB1 := hid hb1; clear hsg hsn hb1)
          go_cut [40] from 40 to 40 (fun s40 wc' => s40 = .int .u64 hd ∧ wc' = w1)
          case first =>
            rcases Nat.lt_or_ge (L - ro) fz with hle | hge
            · have e1 := hid (p := (L : Int) - ro = hd) (by have := HHD.out; omega)
              go_wp2_with fail
              go_meet
              exact ⟨congrArg (Value.int .u64) e1.out, rfl⟩
            · have e1 := hid (p := (fz : Int) = hd) (by have := HHD.out; omega)
              go_wp2_with fail
              go_meet
              exact ⟨congrArg (Value.int .u64) e1.out, rfl⟩
          case rest =>
            obtain ⟨rfl, rfl⟩ := hcut
            have HLT := hid (p := w.heap.size < wc.heap.size) (Nat.lt_of_lt_of_le (World.block_lt_of_cell? _ _ (HFC.out 0 (by omega))) HB1.out.size)
            have HALL := hid (And.intro HBEL.out (And.intro HB1.out (And.intro HFB.out (And.intro (fun i (hi : i < L) => cell_later HB1.out (HFC.out i hi)) (And.intro HSN.out (HEQ.out.imp fun a ha => cell_later HB1.out ha))))))
            cases Mapped
            · have HEXT := hid (p := ∀ W, W = (theBox w.heap.size wc.heap.size L ro fz po nf sz fa Big false).laid wc → Calls Ybaf.prog 6 #[.pointer (some ⟨wc.heap.size + 1 + 1 + 1 + 1 + 1, 0, none⟩), .int .u64 fd] W
                  fun e w' => ∃ v1 v2 k, e = .returned (.tuple #[v1, v2]) ∧ Stand w (theBox w.heap.size wc.heap.size L ro fz po nf sz fa Big false) fl sg k w' ∧ Tell (theBox w.heap.size wc.heap.size L ro fz po nf sz fa Big false) fl fd v1 v2 k w') (fun W hW => by
                subst hW
                exact call_ext F w wc (theBox w.heap.size wc.heap.size L ro fz po nf sz fa Big false) fl sg fd HF.out rfl rfl rfl rfl rfl rfl rfl (by show w.heap.size < wc.heap.size; exact HLT.out) h2 (by have := HSZ.out; exact ⟨by show 200 ≤ L; omega, by show L ≤ 2000000; omega, by show ro < 16; omega, by show po < 16; omega, by show fz ≤ 2000000; omega, by show nf < 12; omega, by show sz = 40 ∨ sz = 44; omega, by show fa < 3; omega⟩) hfd (by show 0 < nf → po + (fd + 8 * nf - 4) + 4 ≤ min fz (L - ro); have := HCASE.out; omega) HALL.out.1 HALL.out.2.1 HALL.out.2.2.1 HALL.out.2.2.2.1 HALL.out.2.2.2.2.1 HALL.out.2.2.2.2.2)
              have HOK := hid (box_ok w.heap.size wc.heap.size L ro fz po nf sz fa Big false (by exact HLT.out) h2 (by omega) (by omega) (by omega) (by omega) (by omega) (by omega) (by have := HSZ.out; omega) (by omega))
              go_upto_if 214 with (go_at_call 5; (with_reducible refine (new_any _ _).mono ?_); rintro e w2 ⟨rfl, rfl⟩)
              go_cut [45] from 214 to 216 (fun s45 wc' => s45 = .iface (ordT Big) (.agg #[]) ∧ wc' = (((wc.alloc (.cells #[.string ⟨#[122, 122, 115, 54, 50, 50, 54, 98]⟩] 69)).alloc (.cells #[.slice (some ⟨w.heap.size, 0, none⟩) L L, .int .i64 0, .int .i64 fa, .iface 67 (.pointer (some ⟨wc.heap.size, 0, none⟩))] 32)).alloc
                (.cells #[.string ⟨#[]⟩, .string ⟨#[]⟩, .slice none 0 0, .pointer none, .int .u64 0, .iface 30 (.pointer (some ⟨wc.heap.size + 1, 0, none⟩)), .int .i64 L, .slice none 0 0, .nilFunc] 39)).alloc (.cells #[.string ⟨#[]⟩, .int .u64 0, .int .u64 0, .bool false, .bool false, .int .u64 ro, .int .u64 fz] 41))
              case first =>
                cases Big
                · go_wp2_with fail
                  go_meet
                  exact ⟨rfl, rfl⟩
                · go_wp2_with fail
                  go_meet
                  exact ⟨rfl, rfl⟩
              case rest =>
                obtain ⟨rfl, rfl⟩ := hcut
                go_upto_region 52 with fail
                go_cut [41, 42, 44, 47, 48, 49] from 187 to 231 (fun s41 s42 s44 s47 s48 s49 wd => ∃ N' k, s41 = .iface 67 (.pointer (some ⟨N', 0, none⟩)) ∧ s42 = .pointer (some ⟨N' + 1, 0, none⟩) ∧ s44 = .pointer (some ⟨N' + 1 + 1 + 1, 0, none⟩) ∧ s47 = .pointer (some ⟨N' + 1 + 1 + 1 + 1 + 1, 0, none⟩) ∧ Stand w (theBox w.heap.size N' L ro fz po nf sz fa Big false) fl sg k wd ∧ Tell (theBox w.heap.size N' L ro fz po nf sz fa Big false) fl fd s48 s49 k wd ∧ (theBox w.heap.size N' L ro fz po nf sz fa Big false).Ok)
                case first =>
                  go_wp2_with (go_at_call 6; (with_reducible refine (HEXT.out _ ?_).mono ?_); (exact rfl); rintro e w3 ⟨v1, v2, k, rfl, hS, hT⟩)
                  all_goals (try go_wp2_with fail)
                  go_meet
                  exact ⟨wc.heap.size, k, rfl, rfl, rfl, rfl, hS, hT, HOK.out⟩
                case rest =>
                  as_aux_lemma =>
                    obtain ⟨N', k, rfl, rfl, rfl, rfl, hS, hT, hOk⟩ := hcut
                    have HS := hid hS
                    have HOk := hid hOk
                    clear hS hOk HEXT HCL HOK hfa HALL HLT HB1 HSN HBEL HEQ
                    unfold Tell at hT
                    have hE9 : fd + 8 * Box.nf (theBox w.heap.size N' L ro fz po nf sz fa Big false) + 8 = E0 := HE1.out.symm
                    rw [hE9] at hT
                    clear hE9
                    have HT0 := hid hT
                    clear hT
                    go_upto_region 53 with fail
                    go_cut [50] from 50 to 50 (fun s50 wd' => s50 = .int .u64 E0 ∧ wd' = wc)
                    case first =>
                      as_aux_lemma =>
                        go_wp2_with fail
                        go_meet
                        exact ⟨congrArg (Value.int .u64) HE0.out, rfl⟩
                    case rest =>
                      as_aux_lemma =>
                        obtain ⟨rfl, rfl⟩ := hcut
                        have hT := HT0.out
                        clear HT0
                        have t1 : wc.cell? ⟨N' + 1, 2, none⟩ = some (.int .i64 fa) := HS.out.env.d2
                        have t2 : wc.cell? ⟨N' + 1, 1, none⟩ = some (.int .i64 k) := HS.out.env.d1
                        have t3 : wc.cell? ⟨N' + 1 + 1 + 1 + 1 + 1, 5, none⟩ = some (.int .i64 nf) := HS.out.env.tN
                        have t4 : wc.cell? ⟨N' + 1 + 1 + 1 + 1 + 1, 29, none⟩ = some (.int .u64 po) := HS.out.env.tP2
                        have t5 : wc.cell? ⟨N' + 1 + 1 + 1, 5, none⟩ = some (.int .u64 ro) := HS.out.env.r5
                        have t6 : wc.cell? ⟨N' + 1 + 1 + 1, 6, none⟩ = some (.int .u64 fz) := HS.out.env.r6
                        have HEQ2 := hid (equal_any w.heap.size sg L L cap2 fl wc HFL.out HS.out.env.file HS.out.snap)
                        rcases hT with ⟨g0, rfl, rfl, hk0⟩ | ⟨hp0, gm, gf, rfl, ⟨pb, rfl, hpb⟩, hk0⟩ | ⟨hp0, hmay0, hT⟩
                        · as_aux_lemma =>
                            have g0' : nf = 0 := g0
                            subst g0'
                            subst hk0
                            clear HCASE
                            go_wp2_with (go_at_call 9; (with_reducible refine HEQ2.out.mono ?_); rintro e w9 ⟨rfl, rfl⟩)
                            go_ret
                            exact ⟨rfl, HS.out.low⟩
                        · as_aux_lemma =>
                            have hfa0 : fa = 0 := gf
                            subst hfa0
                            have hpos : 0 < nf := hp0
                            have hd1 : decide ((0 : Int) < (nf : Int)) = true := decide_eq_true (by omega)
                            have HIS := hid (is_wrap_same pb 0 ⟨N', 0, none⟩ wc hpb)
                            clear hpb
                            subst hk0
                            go_wp2_with (first | (go_at_call 9; (with_reducible refine HEQ2.out.mono ?_); rintro e w9 ⟨rfl, rfl⟩) | (go_at_call 8; (with_reducible refine HIS.out.mono ?_); rintro e w8 ⟨rfl, rfl⟩))
                            go_ret
                            exact ⟨rfl, HS.out.low⟩
                        · obtain ⟨v, hv⟩ : ∃ v : Nat, v = four Big fl (ro + f1) := ⟨_, rfl⟩
                          have hv2 : v < 4294967296 := by rw [hv]; exact (four_num HFB.out _).2
                          have hpos : 0 < nf := hp0
                          have hf1 : f1 = po + fd + 8 * nf - 4 := by have := HCASE.out; omega
                          have hf2 : f1 < 140 := by omega
                          obtain ⟨rc, hrc⟩ : ∃ rc : Nat, rc = fd + v := ⟨_, rfl⟩
                          obtain ⟨fr2, hfr⟩ : ∃ fr2 : Nat, fr2 = po + rc := ⟨_, rfl⟩
                          have hrc2 : rc < 4294967400 := by omega
                          have hfr2 : fr2 < 4294967500 := by omega
                          have HV := hid hv
                          have HRC := hid (p := Box.rc (theBox w.heap.size N' L ro fz po nf sz fa Big false) fl fd = rc) (by
                            unfold Box.rc Box.k1
                            show fd + four Big fl (ro + (po + (fd + 8 * nf - 4))) = rc
                            rw [show ro + (po + (fd + 8 * nf - 4)) = ro + f1 by omega, ← hv, hrc])
                          have HFR := hid hfr
                          have HR1 := hid (p := (fd : Int) + v = rc) (by omega)
                          have HR2 := hid (p := (po : Int) + rc = fr2) (by omega)
                          rw [HRC.out] at hT
                          have hT2 : _ := hT
                          have hd1 : decide ((0 : Int) < (nf : Int)) = true := decide_eq_true (by omega)
                          have hfe0 : fa ≠ 0 := by have := may_zero hmay0; omega
                          have hfe : ((fa : Int) == 0) = false := beq_eq_false_iff_ne.2 (by omega)
                          have hcn : ¬ cap2 = ro + f1 := by omega
                          have HZ := hid (p := ∀ o n c, o = ro + f1 → 4 ≤ n → Calls Ybaf.prog 7 #[.slice (some ⟨sg, o, none⟩) n c, .bool Big] wc fun e w' => e = .returned (.int .u32 v) ∧ Below wc.heap.size wc w') (fun o n c ho hn => by
                            subst ho
                            have := zz32f Big fl sg (ro + f1) n c (ro + f1) wc HFB.out (fun i hi => HS.out.snap (ro + f1 + i) (by show ro + f1 + i < L; omega)) hn
                            rw [← HV.out] at this
                            exact this.mono fun e w' ⟨h1, q, h2⟩ => ⟨h1, h2 ▸ below_drewN (Below.refl _ _) q⟩)
                          have HT := hid hT
                          clear hv hf1 hrc hfr hT hT2 hp0
                          go_upto_region 62 with fail
                          go_cut [53] from 53 to 53 (fun s53 wd' => s53 = .int .u32 v ∧ Below wc.heap.size wc wd')
                          case first =>
                            as_aux_lemma =>
                              go_wp2_with (go_at_call 7; (with_reducible refine (HZ.out _ _ _ ?_ ?_).mono ?_); (first | rfl | omega); omega; rintro e w4 ⟨rfl, hb4⟩)
                              all_goals (try go_wp2_with fail)
                              go_meet
                              exact ⟨rfl, hb4⟩
                          case rest =>
                            as_aux_lemma =>
                              obtain ⟨rfl, hb4⟩ := hcut
                              have HS8 := hid (HS.out.below HOk.out hb4)
                              have HB7 := hid hb4
                              clear HS HEQ2 t1 t2 t3 t4 t5 t6 hb4 HZ
                              have HS := hid HS8.out
                              clear HS8
                              have t1 : wc.cell? ⟨N' + 1, 2, none⟩ = some (.int .i64 fa) := HS.out.env.d2
                              have t2 : wc.cell? ⟨N' + 1, 1, none⟩ = some (.int .i64 k) := HS.out.env.d1
                              have t3 : wc.cell? ⟨N' + 1 + 1 + 1 + 1 + 1, 5, none⟩ = some (.int .i64 nf) := HS.out.env.tN
                              have t4 : wc.cell? ⟨N' + 1 + 1 + 1 + 1 + 1, 29, none⟩ = some (.int .u64 po) := HS.out.env.tP2
                              have t5 : wc.cell? ⟨N' + 1 + 1 + 1, 5, none⟩ = some (.int .u64 ro) := HS.out.env.r5
                              have t6 : wc.cell? ⟨N' + 1 + 1 + 1, 6, none⟩ = some (.int .u64 fz) := HS.out.env.r6
                              have HEQ2 := hid (equal_any w.heap.size sg L L cap2 fl wc HFL.out HS.out.env.file HS.out.snap)
                              go_upto_region 63 with fail
                              go_cut [54] from 54 to 54 (fun s54 wd' => s54 = .int .u64 rc ∧ wd' = wc)
                              case first =>
                                as_aux_lemma =>
                                  go_wp2_with fail
                                  go_meet
                                  exact ⟨congrArg (Value.int .u64) HR1.out, rfl⟩
                              case rest =>
                                as_aux_lemma =>
                                  obtain ⟨rfl, rfl⟩ := hcut
                                  go_upto_region 64 with fail
                                  go_cut [55] from 55 to 55 (fun s55 wd' => s55 = .int .u64 fr2 ∧ wd' = wc)
                                  case first =>
                                    as_aux_lemma =>
                                      go_wp2_with fail
                                      go_meet
                                      exact ⟨congrArg (Value.int .u64) HR2.out, rfl⟩
                                  case rest =>
                                    as_aux_lemma =>
                                      obtain ⟨rfl, rfl⟩ := hcut
                                      have hT := HT.out
                                      clear HT
                                      have hh9 : Box.held (theBox w.heap.size N' L ro fz po nf sz fa Big false) = hd := HHD.out.symm
                                      have hp9 : Box.poff (theBox w.heap.size N' L ro fz po nf sz fa Big false) + rc = fr2 := HFR.out.symm
                                      rw [hh9, hp9] at hT
                                      clear hh9 hp9
                                      rcases hT with ⟨g1, rfl, rfl, hk0⟩ | ⟨g1, gm, gf, rfl, ⟨pb, rfl, hpb⟩, hk0⟩ | ⟨g1, gy, g2, rfl, rfl, hk0⟩ | ⟨g1, gy, g2, rfl, rfl, hk0⟩
                                      · as_aux_lemma =>
                                          have hdd : decide ((fr2 : Int) < (hd : Int)) = false := decide_eq_false (by have := g1; omega)
                                          have hdn : decide (fr2 < hd) = false := decide_eq_false (by have := g1; omega)
                                          have hdq : ¬ fr2 < hd := by have := g1; omega
                                          clear g1
                                          have hk1 : k = 1 := hk0
                                          clear hk0
                                          subst hk1
                                          go_wp2_with (go_at_call 9; (with_reducible refine HEQ2.out.mono ?_); rintro e w9 ⟨rfl, rfl⟩)
                                          go_ret
                                          exact ⟨rfl, HS.out.low⟩
                                      · as_aux_lemma =>
                                          have hfa0 : fa = 1 := gf
                                          subst hfa0
                                          have hdd : decide ((fr2 : Int) < (hd : Int)) = true := decide_eq_true (by have := g1; omega)
                                          have HIS := hid (is_wrap_same pb 0 ⟨N', 0, none⟩ wc (cell_later HB7.out hpb))
                                          clear hpb
                                          subst hk0
                                          obtain ⟨av, hav⟩ : ∃ av : Nat, av = min sz (hd - fr2) := ⟨_, rfl⟩
                                          have HAV := hid hav
                                          have hav2 : av ≤ 100 := by omega
                                          clear hav
                                          go_upto_region 66 with fail
                                          go_cut [56] from 56 to 56 (fun s56 wd' => s56 = .int .u64 av ∧ wd' = wc)
                                          case first =>
                                            as_aux_lemma =>
                                              rcases Nat.lt_or_ge (hd - fr2) sz with hle | hge
                                              · have e1 := hid (p := (hd : Int) - fr2 = av) (by have := HAV.out; omega)
                                                go_wp2_with fail
                                                go_meet
                                                exact ⟨congrArg (Value.int .u64) e1.out, rfl⟩
                                              · have e1 := hid (p := (sz : Int) = av) (by have := HAV.out; omega)
                                                go_wp2_with fail
                                                go_meet
                                                exact ⟨congrArg (Value.int .u64) e1.out, rfl⟩
                                          case rest =>
                                            as_aux_lemma =>
                                              obtain ⟨rfl, rfl⟩ := hcut
                                              go_wp2_with (first | (go_at_call 9; (with_reducible refine HEQ2.out.mono ?_); rintro e w9 ⟨rfl, rfl⟩) | (go_at_call 8; (with_reducible refine HIS.out.mono ?_); rintro e w8 ⟨rfl, rfl⟩))
                                              go_ret
                                              exact ⟨rfl, HS.out.low⟩
                                      · as_aux_lemma =>
                                          have hdd : decide ((fr2 : Int) < (hd : Int)) = true := decide_eq_true (by have := g1; omega)
                                          have hk1 : k = 2 := hk0
                                          clear hk0
                                          subst hk1
                                          have hf1e : ((fa : Int) == 1) = false := beq_eq_false_iff_ne.2 (by have := may_one gy; omega)
                                          obtain ⟨av, hav⟩ : ∃ av : Nat, av = min sz (hd - fr2) := ⟨_, rfl⟩
                                          have HAV := hid hav
                                          have hav2 : av ≤ 100 := by omega
                                          clear hav
                                          go_upto_region 66 with fail
                                          go_cut [56] from 56 to 56 (fun s56 wd' => s56 = .int .u64 av ∧ wd' = wc)
                                          case first =>
                                            as_aux_lemma =>
                                              rcases Nat.lt_or_ge (hd - fr2) sz with hle | hge
                                              · have e1 := hid (p := (hd : Int) - fr2 = av) (by have := HAV.out; omega)
                                                go_wp2_with fail
                                                go_meet
                                                exact ⟨congrArg (Value.int .u64) e1.out, rfl⟩
                                              · have e1 := hid (p := (sz : Int) = av) (by have := HAV.out; omega)
                                                go_wp2_with fail
                                                go_meet
                                                exact ⟨congrArg (Value.int .u64) e1.out, rfl⟩
                                          case rest =>
                                            as_aux_lemma =>
                                              obtain ⟨rfl, rfl⟩ := hcut
                                              have g2' : hd - fr2 < sz := g2
                                              have hse : ((av : Int) == (sz : Int)) = false := beq_eq_false_iff_ne.2 (by have := HAV.out; omega)
                                              clear g1 g2
                                              go_wp2_with (go_at_call 9; (with_reducible refine HEQ2.out.mono ?_); rintro e w9 ⟨rfl, rfl⟩)
                                              go_ret
                                              exact ⟨rfl, HS.out.low⟩
                                      · as_aux_lemma =>
                                          have hdd : decide ((fr2 : Int) < (hd : Int)) = true := decide_eq_true (by have := g1; omega)
                                          have hk1 : k = 2 := hk0
                                          clear hk0
                                          subst hk1
                                          have hf1e : ((fa : Int) == 1) = false := beq_eq_false_iff_ne.2 (by have := may_one gy; omega)
                                          obtain ⟨k2, hk2⟩ : ∃ k2 : Nat, k2 = ro + fr2 := ⟨_, rfl⟩
                                          have HK2 := hid (p := (ro : Int) + fr2 = k2) (by omega)
                                          have g2' : sz ≤ hd - fr2 := g2
                                          have hk2L : k2 + sz ≤ L := by have := HHD.out; omega
                                          obtain ⟨np, hnp⟩ : ∃ np : Nat, np = four Big fl (k2 + 28) := ⟨_, rfl⟩
                                          have hnp2 : np < 4294967296 := by rw [hnp]; exact (four_num HFB.out _).2
                                          have HNP := hid hnp
                                          obtain ⟨y, hy⟩ : ∃ y : Nat, (y : Int) = fl.getD (k2 + (sz - 1)) 0 := ⟨(fl.getD (k2 + (sz - 1)) 0).toNat, by have := HFB.out (k2 + (sz - 1)); omega⟩
                                          have hy2 : y ≤ 255 := by have := HFB.out (k2 + (sz - 1)); omega
                                          have HY := hid hy
                                          obtain ⟨M, hM⟩ : ∃ M : Nat, M = max E0 (rc + sz + 4 * (np + y)) := ⟨_, rfl⟩
                                          have HM := hid hM
                                          have hM2 : M < 100000000000 := by omega
                                          have hfar : (max E0 (Box.far (theBox w.heap.size N' L ro fz po nf sz fa Big false) fl fd) : Nat) = M := by
                                            rw [hM]
                                            have hrc9 : Box.rc (theBox w.heap.size N' L ro fz po nf sz fa Big false) fl fd = rc := HRC.out
                                            have hk9 : Box.k2 (theBox w.heap.size N' L ro fz po nf sz fa Big false) fl fd = k2 := by unfold Box.k2; rw [hrc9]; show ro + (po + rc) = k2; rw [hk2, HFR.out]
                                            unfold Box.far
                                            rw [hrc9, hk9]
                                            show max E0 (rc + sz + 4 * (four Big fl (k2 + 28) + (fl.getD (k2 + (sz - 1)) 0).toNat)) = _
                                            rw [← hnp, ← hy]
                                            congr 1
                                          rw [hfar]
                                          have hsz8 := HSZ.out
                                          clear hk2 hnp hy hM hfar
                                          obtain ⟨av, hav⟩ : ∃ av : Nat, av = min sz (hd - fr2) := ⟨_, rfl⟩
                                          have HAV := hid hav
                                          have hav2 : av ≤ 100 := by omega
                                          clear hav
                                          go_upto_region 66 with fail
                                          go_cut [56] from 56 to 56 (fun s56 wd' => s56 = .int .u64 av ∧ wd' = wc)
                                          case first =>
                                            as_aux_lemma =>
                                              rcases Nat.lt_or_ge (hd - fr2) sz with hle | hge
                                              · have e1 := hid (p := (hd : Int) - fr2 = av) (by have := HAV.out; omega)
                                                go_wp2_with fail
                                                go_meet
                                                exact ⟨congrArg (Value.int .u64) e1.out, rfl⟩
                                              · have e1 := hid (p := (sz : Int) = av) (by have := HAV.out; omega)
                                                go_wp2_with fail
                                                go_meet
                                                exact ⟨congrArg (Value.int .u64) e1.out, rfl⟩
                                          case rest =>
                                            as_aux_lemma =>
                                              obtain ⟨rfl, rfl⟩ := hcut
                                              have hse : ((av : Int) == (sz : Int)) = true := beq_iff_eq.2 (by have := HAV.out; omega)
                                              clear g1 g2
                                              have HZ2 := hid (p := ∀ W o n c, Below wc.heap.size wc W → o = k2 + 28 → 4 ≤ n → Calls Ybaf.prog 7 #[.slice (some ⟨sg, o, none⟩) n c, .bool Big] W fun e w' => e = .returned (.int .u32 np) ∧ Below wc.heap.size wc w') (fun W o n c hW ho hn => by
                                                subst ho
                                                have := zz32f Big fl sg (k2 + 28) n c (k2 + 28) W HFB.out (fun i hi => cell_later hW (HS.out.snap (k2 + 28 + i) (by show k2 + 28 + i < L; omega))) hn
                                                rw [← HNP.out] at this
                                                exact this.mono fun e w' ⟨h1, q, h2⟩ => ⟨h1, h2 ▸ below_drewN hW q⟩)
                                              go_upto_region 72 with fail
                                              go_cut [57] from 57 to 57 (fun s57 wd' => s57 = .int .u64 k2 ∧ wd' = wc)
                                              case first =>
                                                as_aux_lemma =>
                                                  go_wp2_with fail
                                                  go_meet
                                                  exact ⟨congrArg (Value.int .u64) HK2.out, rfl⟩
                                              case rest =>
                                                as_aux_lemma =>
                                                  obtain ⟨rfl, rfl⟩ := hcut
                                                  have hcn : ¬ cap2 = k2 + 28 := by omega
                                                  go_upto_region 73 with fail
                                                  go_cut [58] from 58 to 58 (fun s58 wd' => s58 = .int .u64 np ∧ Below wc.heap.size wc wd')
                                                  case first =>
                                                    as_aux_lemma =>
                                                      go_wp2_with (go_at_call 7; (with_reducible refine (HZ2.out _ _ _ _ ?_ ?_ ?_).mono ?_); (exact Below.refl _ _); (first | rfl | omega); omega; rintro e w5 ⟨rfl, hb5⟩)
                                                      all_goals (try go_wp2_with fail)
                                                      go_meet
                                                      exact ⟨rfl, hb5⟩
                                                  case rest =>
                                                    as_aux_lemma =>
                                                      obtain ⟨rfl, hb5⟩ := hcut
                                                      have HS8 := hid (HS.out.below HOk.out hb5)
                                                      clear HS HEQ2 t1 t2 t3 t4 t5 t6 hb5 HZ2
                                                      have HS := hid HS8.out
                                                      clear HS8
                                                      have t1 : wc.cell? ⟨N' + 1, 2, none⟩ = some (.int .i64 fa) := HS.out.env.d2
                                                      have t2 : wc.cell? ⟨N' + 1, 1, none⟩ = some (.int .i64 ((2 : Nat) : Int)) := HS.out.env.d1
                                                      have t3 : wc.cell? ⟨N' + 1 + 1 + 1 + 1 + 1, 5, none⟩ = some (.int .i64 nf) := HS.out.env.tN
                                                      have t4 : wc.cell? ⟨N' + 1 + 1 + 1 + 1 + 1, 29, none⟩ = some (.int .u64 po) := HS.out.env.tP2
                                                      have t5 : wc.cell? ⟨N' + 1 + 1 + 1, 5, none⟩ = some (.int .u64 ro) := HS.out.env.r5
                                                      have t6 : wc.cell? ⟨N' + 1 + 1 + 1, 6, none⟩ = some (.int .u64 fz) := HS.out.env.r6
                                                      have HEQ2 := hid (equal_any w.heap.size sg L L cap2 fl wc HFL.out HS.out.env.file HS.out.snap)
                                                      have ty : wc.cell? ⟨sg, k2 + (sz - 1), none⟩ = some (.int .u8 y) := by
                                                        have := HS.out.snap (k2 + (sz - 1)) (by show k2 + (sz - 1) < L; omega)
                                                        rw [← HY.out] at this
                                                        exact this
                                                      go_upto_region 74 with fail
                                                      go_cut [59] from 59 to 59 (fun s59 wd' => s59 = .int .u64 y ∧ wd' = wc)
                                                      case first =>
                                                        as_aux_lemma =>
                                                          rcases hsz8 with rfl | rfl
                                                          · go_wp2_with fail
                                                            go_meet
                                                            exact ⟨rfl, rfl⟩
                                                          · go_wp2_with fail
                                                            go_meet
                                                            exact ⟨rfl, rfl⟩
                                                      case rest =>
                                                        as_aux_lemma =>
                                                          obtain ⟨rfl, rfl⟩ := hcut
                                                          go_upto_region 75 with fail
                                                          go_cut [50] from 50 to 50 (fun s50 wd' => s50 = .int .u64 M ∧ wd' = wc)
                                                          case first =>
                                                            as_aux_lemma =>
                                                              rcases Nat.lt_or_ge E0 (rc + sz + 4 * (np + y)) with hmx | hmx
                                                              · have e1 := hid (p := (rc : Int) + sz + 4 * (np + y) = M) (by have := HM.out; omega)
                                                                go_wp2_with fail
                                                                go_meet
                                                                exact ⟨congrArg (Value.int .u64) e1.out, rfl⟩
                                                              · have e1 := hid (p := (E0 : Int) = M) (by have := HM.out; omega)
                                                                go_wp2_with fail
                                                                go_meet
                                                                exact ⟨congrArg (Value.int .u64) e1.out, rfl⟩
                                                          case rest =>
                                                            as_aux_lemma =>
                                                              obtain ⟨rfl, rfl⟩ := hcut
                                                              go_wp2_with (go_at_call 9; (with_reducible refine HEQ2.out.mono ?_); rintro e w9 ⟨rfl, rfl⟩)
                                                              go_ret
                                                              exact ⟨rfl, HS.out.low⟩
            · have HEXT := hid (p := ∀ W, W = (theBox w.heap.size wc.heap.size L ro fz po nf sz fa Big true).laid wc → Calls Ybaf.prog 6 #[.pointer (some ⟨wc.heap.size + 1 + 1 + 1 + 1 + 1, 0, none⟩), .int .u64 fd] W
                  fun e w' => ∃ v1 v2 k, e = .returned (.tuple #[v1, v2]) ∧ Stand w (theBox w.heap.size wc.heap.size L ro fz po nf sz fa Big true) fl sg k w' ∧ Tell (theBox w.heap.size wc.heap.size L ro fz po nf sz fa Big true) fl fd v1 v2 k w') (fun W hW => by
                subst hW
                exact call_ext F w wc (theBox w.heap.size wc.heap.size L ro fz po nf sz fa Big true) fl sg fd HF.out rfl rfl rfl rfl rfl rfl rfl (by show w.heap.size < wc.heap.size; exact HLT.out) h2 (by have := HSZ.out; exact ⟨by show 200 ≤ L; omega, by show L ≤ 2000000; omega, by show ro < 16; omega, by show po < 16; omega, by show fz ≤ 2000000; omega, by show nf < 12; omega, by show sz = 40 ∨ sz = 44; omega, by show fa < 3; omega⟩) hfd (by show 0 < nf → po + (fd + 8 * nf - 4) + 4 ≤ min fz (L - ro); have := HCASE.out; omega) HALL.out.1 HALL.out.2.1 HALL.out.2.2.1 HALL.out.2.2.2.1 HALL.out.2.2.2.2.1 HALL.out.2.2.2.2.2)
              have HOK := hid (box_ok w.heap.size wc.heap.size L ro fz po nf sz fa Big true (by exact HLT.out) h2 (by omega) (by omega) (by omega) (by omega) (by omega) (by omega) (by have := HSZ.out; omega) (by omega))
              go_upto_if 214 with (go_at_call 5; (with_reducible refine (new_any _ _).mono ?_); rintro e w2 ⟨rfl, rfl⟩)
              go_cut [45] from 214 to 216 (fun s45 wc' => s45 = .iface (ordT Big) (.agg #[]) ∧ wc' = (((wc.alloc (.cells #[.string ⟨#[122, 122, 115, 54, 50, 50, 54, 98]⟩] 69)).alloc (.cells #[.slice (some ⟨w.heap.size, 0, none⟩) L L, .int .i64 0, .int .i64 fa, .iface 67 (.pointer (some ⟨wc.heap.size, 0, none⟩))] 32)).alloc
                (.cells #[.string ⟨#[]⟩, .string ⟨#[]⟩, .slice none 0 0, .pointer none, .int .u64 0, .nilIface, .int .i64 L, .slice (some ⟨w.heap.size, 0, none⟩) L L, .nilFunc] 39)).alloc (.cells #[.string ⟨#[]⟩, .int .u64 0, .int .u64 0, .bool false, .bool false, .int .u64 ro, .int .u64 fz] 41))
              case first =>
                cases Big
                · go_wp2_with fail
                  go_meet
                  exact ⟨rfl, rfl⟩
                · go_wp2_with fail
                  go_meet
                  exact ⟨rfl, rfl⟩
              case rest =>
                obtain ⟨rfl, rfl⟩ := hcut
                go_upto_region 52 with fail
                go_cut [41, 42, 44, 47, 48, 49] from 187 to 231 (fun s41 s42 s44 s47 s48 s49 wd => ∃ N' k, s41 = .iface 67 (.pointer (some ⟨N', 0, none⟩)) ∧ s42 = .pointer (some ⟨N' + 1, 0, none⟩) ∧ s44 = .pointer (some ⟨N' + 1 + 1 + 1, 0, none⟩) ∧ s47 = .pointer (some ⟨N' + 1 + 1 + 1 + 1 + 1, 0, none⟩) ∧ Stand w (theBox w.heap.size N' L ro fz po nf sz fa Big true) fl sg k wd ∧ Tell (theBox w.heap.size N' L ro fz po nf sz fa Big true) fl fd s48 s49 k wd ∧ (theBox w.heap.size N' L ro fz po nf sz fa Big true).Ok)
                case first =>
                  go_wp2_with (go_at_call 6; (with_reducible refine (HEXT.out _ ?_).mono ?_); (exact rfl); rintro e w3 ⟨v1, v2, k, rfl, hS, hT⟩)
                  all_goals (try go_wp2_with fail)
                  go_meet
                  exact ⟨wc.heap.size, k, rfl, rfl, rfl, rfl, hS, hT, HOK.out⟩
                case rest =>
                  as_aux_lemma =>
                    obtain ⟨N', k, rfl, rfl, rfl, rfl, hS, hT, hOk⟩ := hcut
                    have HS := hid hS
                    have HOk := hid hOk
                    clear hS hOk HEXT HCL HOK hfa HALL HLT HB1 HSN HBEL HEQ
                    unfold Tell at hT
                    have hE9 : fd + 8 * Box.nf (theBox w.heap.size N' L ro fz po nf sz fa Big true) + 8 = E0 := HE1.out.symm
                    rw [hE9] at hT
                    clear hE9
                    have HT0 := hid hT
                    clear hT
                    go_upto_region 53 with fail
                    go_cut [50] from 50 to 50 (fun s50 wd' => s50 = .int .u64 E0 ∧ wd' = wc)
                    case first =>
                      as_aux_lemma =>
                        go_wp2_with fail
                        go_meet
                        exact ⟨congrArg (Value.int .u64) HE0.out, rfl⟩
                    case rest =>
                      as_aux_lemma =>
                        obtain ⟨rfl, rfl⟩ := hcut
                        have hT := HT0.out
                        clear HT0
                        have t1 : wc.cell? ⟨N' + 1, 2, none⟩ = some (.int .i64 fa) := HS.out.env.d2
                        have t2 : wc.cell? ⟨N' + 1, 1, none⟩ = some (.int .i64 k) := HS.out.env.d1
                        have t3 : wc.cell? ⟨N' + 1 + 1 + 1 + 1 + 1, 5, none⟩ = some (.int .i64 nf) := HS.out.env.tN
                        have t4 : wc.cell? ⟨N' + 1 + 1 + 1 + 1 + 1, 29, none⟩ = some (.int .u64 po) := HS.out.env.tP2
                        have t5 : wc.cell? ⟨N' + 1 + 1 + 1, 5, none⟩ = some (.int .u64 ro) := HS.out.env.r5
                        have t6 : wc.cell? ⟨N' + 1 + 1 + 1, 6, none⟩ = some (.int .u64 fz) := HS.out.env.r6
                        have HEQ2 := hid (equal_any w.heap.size sg L L cap2 fl wc HFL.out HS.out.env.file HS.out.snap)
                        rcases hT with ⟨g0, rfl, rfl, hk0⟩ | ⟨hp0, gm, gf, rfl, ⟨pb, rfl, hpb⟩, hk0⟩ | ⟨hp0, hmay0, hT⟩
                        · as_aux_lemma =>
                            have g0' : nf = 0 := g0
                            subst g0'
                            subst hk0
                            clear HCASE
                            go_wp2_with (go_at_call 9; (with_reducible refine HEQ2.out.mono ?_); rintro e w9 ⟨rfl, rfl⟩)
                            go_ret
                            exact ⟨rfl, HS.out.low⟩
                        · exact absurd (show true = false from gm) (by decide)
                        · obtain ⟨v, hv⟩ : ∃ v : Nat, v = four Big fl (ro + f1) := ⟨_, rfl⟩
                          have hv2 : v < 4294967296 := by rw [hv]; exact (four_num HFB.out _).2
                          have hpos : 0 < nf := hp0
                          have hf1 : f1 = po + fd + 8 * nf - 4 := by have := HCASE.out; omega
                          have hf2 : f1 < 140 := by omega
                          obtain ⟨rc, hrc⟩ : ∃ rc : Nat, rc = fd + v := ⟨_, rfl⟩
                          obtain ⟨fr2, hfr⟩ : ∃ fr2 : Nat, fr2 = po + rc := ⟨_, rfl⟩
                          have hrc2 : rc < 4294967400 := by omega
                          have hfr2 : fr2 < 4294967500 := by omega
                          have HV := hid hv
                          have HRC := hid (p := Box.rc (theBox w.heap.size N' L ro fz po nf sz fa Big true) fl fd = rc) (by
                            unfold Box.rc Box.k1
                            show fd + four Big fl (ro + (po + (fd + 8 * nf - 4))) = rc
                            rw [show ro + (po + (fd + 8 * nf - 4)) = ro + f1 by omega, ← hv, hrc])
                          have HFR := hid hfr
                          have HR1 := hid (p := (fd : Int) + v = rc) (by omega)
                          have HR2 := hid (p := (po : Int) + rc = fr2) (by omega)
                          rw [HRC.out] at hT
                          have hT2 : _ := hT
                          have hd1 : decide ((0 : Int) < (nf : Int)) = true := decide_eq_true (by omega)
                          have hcn : ¬ cap2 = ro + f1 := by omega
                          have HZ := hid (p := ∀ o n c, o = ro + f1 → 4 ≤ n → Calls Ybaf.prog 7 #[.slice (some ⟨sg, o, none⟩) n c, .bool Big] wc fun e w' => e = .returned (.int .u32 v) ∧ Below wc.heap.size wc w') (fun o n c ho hn => by
                            subst ho
                            have := zz32f Big fl sg (ro + f1) n c (ro + f1) wc HFB.out (fun i hi => HS.out.snap (ro + f1 + i) (by show ro + f1 + i < L; omega)) hn
                            rw [← HV.out] at this
                            exact this.mono fun e w' ⟨h1, q, h2⟩ => ⟨h1, h2 ▸ below_drewN (Below.refl _ _) q⟩)
                          have HT := hid hT
                          clear hv hf1 hrc hfr hT hT2 hp0
                          go_upto_region 62 with fail
                          go_cut [53] from 53 to 53 (fun s53 wd' => s53 = .int .u32 v ∧ Below wc.heap.size wc wd')
                          case first =>
                            as_aux_lemma =>
                              go_wp2_with (go_at_call 7; (with_reducible refine (HZ.out _ _ _ ?_ ?_).mono ?_); (first | rfl | omega); omega; rintro e w4 ⟨rfl, hb4⟩)
                              all_goals (try go_wp2_with fail)
                              go_meet
                              exact ⟨rfl, hb4⟩
                          case rest =>
                            as_aux_lemma =>
                              obtain ⟨rfl, hb4⟩ := hcut
                              have HS8 := hid (HS.out.below HOk.out hb4)
                              have HB7 := hid hb4
                              clear HS HEQ2 t1 t2 t3 t4 t5 t6 hb4 HZ
                              have HS := hid HS8.out
                              clear HS8
                              have t1 : wc.cell? ⟨N' + 1, 2, none⟩ = some (.int .i64 fa) := HS.out.env.d2
                              have t2 : wc.cell? ⟨N' + 1, 1, none⟩ = some (.int .i64 k) := HS.out.env.d1
                              have t3 : wc.cell? ⟨N' + 1 + 1 + 1 + 1 + 1, 5, none⟩ = some (.int .i64 nf) := HS.out.env.tN
                              have t4 : wc.cell? ⟨N' + 1 + 1 + 1 + 1 + 1, 29, none⟩ = some (.int .u64 po) := HS.out.env.tP2
                              have t5 : wc.cell? ⟨N' + 1 + 1 + 1, 5, none⟩ = some (.int .u64 ro) := HS.out.env.r5
                              have t6 : wc.cell? ⟨N' + 1 + 1 + 1, 6, none⟩ = some (.int .u64 fz) := HS.out.env.r6
                              have HEQ2 := hid (equal_any w.heap.size sg L L cap2 fl wc HFL.out HS.out.env.file HS.out.snap)
                              go_upto_region 63 with fail
                              go_cut [54] from 54 to 54 (fun s54 wd' => s54 = .int .u64 rc ∧ wd' = wc)
                              case first =>
                                as_aux_lemma =>
                                  go_wp2_with fail
                                  go_meet
                                  exact ⟨congrArg (Value.int .u64) HR1.out, rfl⟩
                              case rest =>
                                as_aux_lemma =>
                                  obtain ⟨rfl, rfl⟩ := hcut
                                  go_upto_region 64 with fail
                                  go_cut [55] from 55 to 55 (fun s55 wd' => s55 = .int .u64 fr2 ∧ wd' = wc)
                                  case first =>
                                    as_aux_lemma =>
                                      go_wp2_with fail
                                      go_meet
                                      exact ⟨congrArg (Value.int .u64) HR2.out, rfl⟩
                                  case rest =>
                                    as_aux_lemma =>
                                      obtain ⟨rfl, rfl⟩ := hcut
                                      have hT := HT.out
                                      clear HT
                                      have hh9 : Box.held (theBox w.heap.size N' L ro fz po nf sz fa Big true) = hd := HHD.out.symm
                                      have hp9 : Box.poff (theBox w.heap.size N' L ro fz po nf sz fa Big true) + rc = fr2 := HFR.out.symm
                                      rw [hh9, hp9] at hT
                                      clear hh9 hp9
                                      rcases hT with ⟨g1, rfl, rfl, hk0⟩ | ⟨g1, gm, gf, rfl, ⟨pb, rfl, hpb⟩, hk0⟩ | ⟨g1, gy, g2, rfl, rfl, hk0⟩ | ⟨g1, gy, g2, rfl, rfl, hk0⟩
                                      · as_aux_lemma =>
                                          have hdd : decide ((fr2 : Int) < (hd : Int)) = false := decide_eq_false (by have := g1; omega)
                                          have hdn : decide (fr2 < hd) = false := decide_eq_false (by have := g1; omega)
                                          have hdq : ¬ fr2 < hd := by have := g1; omega
                                          clear g1
                                          have hk1 : k = 0 := hk0
                                          clear hk0
                                          subst hk1
                                          go_wp2_with (go_at_call 9; (with_reducible refine HEQ2.out.mono ?_); rintro e w9 ⟨rfl, rfl⟩)
                                          go_ret
                                          exact ⟨rfl, HS.out.low⟩
                                      · exact absurd (show true = false from gm) (by decide)
                                      · as_aux_lemma =>
                                          have hdd : decide ((fr2 : Int) < (hd : Int)) = true := decide_eq_true (by have := g1; omega)
                                          have hk1 : k = 0 := hk0
                                          clear hk0
                                          subst hk1
                                          obtain ⟨av, hav⟩ : ∃ av : Nat, av = min sz (hd - fr2) := ⟨_, rfl⟩
                                          have HAV := hid hav
                                          have hav2 : av ≤ 100 := by omega
                                          clear hav
                                          go_upto_region 66 with fail
                                          go_cut [56] from 56 to 56 (fun s56 wd' => s56 = .int .u64 av ∧ wd' = wc)
                                          case first =>
                                            as_aux_lemma =>
                                              rcases Nat.lt_or_ge (hd - fr2) sz with hle | hge
                                              · have e1 := hid (p := (hd : Int) - fr2 = av) (by have := HAV.out; omega)
                                                go_wp2_with fail
                                                go_meet
                                                exact ⟨congrArg (Value.int .u64) e1.out, rfl⟩
                                              · have e1 := hid (p := (sz : Int) = av) (by have := HAV.out; omega)
                                                go_wp2_with fail
                                                go_meet
                                                exact ⟨congrArg (Value.int .u64) e1.out, rfl⟩
                                          case rest =>
                                            as_aux_lemma =>
                                              obtain ⟨rfl, rfl⟩ := hcut
                                              have g2' : hd - fr2 < sz := g2
                                              have hse : ((av : Int) == (sz : Int)) = false := beq_eq_false_iff_ne.2 (by have := HAV.out; omega)
                                              clear g1 g2
                                              go_wp2_with (go_at_call 9; (with_reducible refine HEQ2.out.mono ?_); rintro e w9 ⟨rfl, rfl⟩)
                                              go_ret
                                              exact ⟨rfl, HS.out.low⟩
                                      · as_aux_lemma =>
                                          have hdd : decide ((fr2 : Int) < (hd : Int)) = true := decide_eq_true (by have := g1; omega)
                                          have hk1 : k = 0 := hk0
                                          clear hk0
                                          subst hk1
                                          obtain ⟨k2, hk2⟩ : ∃ k2 : Nat, k2 = ro + fr2 := ⟨_, rfl⟩
                                          have HK2 := hid (p := (ro : Int) + fr2 = k2) (by omega)
                                          have g2' : sz ≤ hd - fr2 := g2
                                          have hk2L : k2 + sz ≤ L := by have := HHD.out; omega
                                          obtain ⟨np, hnp⟩ : ∃ np : Nat, np = four Big fl (k2 + 28) := ⟨_, rfl⟩
                                          have hnp2 : np < 4294967296 := by rw [hnp]; exact (four_num HFB.out _).2
                                          have HNP := hid hnp
                                          obtain ⟨y, hy⟩ : ∃ y : Nat, (y : Int) = fl.getD (k2 + (sz - 1)) 0 := ⟨(fl.getD (k2 + (sz - 1)) 0).toNat, by have := HFB.out (k2 + (sz - 1)); omega⟩
                                          have hy2 : y ≤ 255 := by have := HFB.out (k2 + (sz - 1)); omega
                                          have HY := hid hy
                                          obtain ⟨M, hM⟩ : ∃ M : Nat, M = max E0 (rc + sz + 4 * (np + y)) := ⟨_, rfl⟩
                                          have HM := hid hM
                                          have hM2 : M < 100000000000 := by omega
                                          have hfar : (max E0 (Box.far (theBox w.heap.size N' L ro fz po nf sz fa Big true) fl fd) : Nat) = M := by
                                            rw [hM]
                                            have hrc9 : Box.rc (theBox w.heap.size N' L ro fz po nf sz fa Big true) fl fd = rc := HRC.out
                                            have hk9 : Box.k2 (theBox w.heap.size N' L ro fz po nf sz fa Big true) fl fd = k2 := by unfold Box.k2; rw [hrc9]; show ro + (po + rc) = k2; rw [hk2, HFR.out]
                                            unfold Box.far
                                            rw [hrc9, hk9]
                                            show max E0 (rc + sz + 4 * (four Big fl (k2 + 28) + (fl.getD (k2 + (sz - 1)) 0).toNat)) = _
                                            rw [← hnp, ← hy]
                                            congr 1
                                          rw [hfar]
                                          have hsz8 := HSZ.out
                                          clear hk2 hnp hy hM hfar
                                          obtain ⟨av, hav⟩ : ∃ av : Nat, av = min sz (hd - fr2) := ⟨_, rfl⟩
                                          have HAV := hid hav
                                          have hav2 : av ≤ 100 := by omega
                                          clear hav
                                          go_upto_region 66 with fail
                                          go_cut [56] from 56 to 56 (fun s56 wd' => s56 = .int .u64 av ∧ wd' = wc)
                                          case first =>
                                            as_aux_lemma =>
                                              rcases Nat.lt_or_ge (hd - fr2) sz with hle | hge
                                              · have e1 := hid (p := (hd : Int) - fr2 = av) (by have := HAV.out; omega)
                                                go_wp2_with fail
                                                go_meet
                                                exact ⟨congrArg (Value.int .u64) e1.out, rfl⟩
                                              · have e1 := hid (p := (sz : Int) = av) (by have := HAV.out; omega)
                                                go_wp2_with fail
                                                go_meet
                                                exact ⟨congrArg (Value.int .u64) e1.out, rfl⟩
                                          case rest =>
                                            as_aux_lemma =>
                                              obtain ⟨rfl, rfl⟩ := hcut
                                              have hse : ((av : Int) == (sz : Int)) = true := beq_iff_eq.2 (by have := HAV.out; omega)
                                              clear g1 g2
                                              have HZ2 := hid (p := ∀ W o n c, Below wc.heap.size wc W → o = k2 + 28 → 4 ≤ n → Calls Ybaf.prog 7 #[.slice (some ⟨sg, o, none⟩) n c, .bool Big] W fun e w' => e = .returned (.int .u32 np) ∧ Below wc.heap.size wc w') (fun W o n c hW ho hn => by
                                                subst ho
                                                have := zz32f Big fl sg (k2 + 28) n c (k2 + 28) W HFB.out (fun i hi => cell_later hW (HS.out.snap (k2 + 28 + i) (by show k2 + 28 + i < L; omega))) hn
                                                rw [← HNP.out] at this
                                                exact this.mono fun e w' ⟨h1, q, h2⟩ => ⟨h1, h2 ▸ below_drewN hW q⟩)
                                              go_upto_region 72 with fail
                                              go_cut [57] from 57 to 57 (fun s57 wd' => s57 = .int .u64 k2 ∧ wd' = wc)
                                              case first =>
                                                as_aux_lemma =>
                                                  go_wp2_with fail
                                                  go_meet
                                                  exact ⟨congrArg (Value.int .u64) HK2.out, rfl⟩
                                              case rest =>
                                                as_aux_lemma =>
                                                  obtain ⟨rfl, rfl⟩ := hcut
                                                  have hcn : ¬ cap2 = k2 + 28 := by omega
                                                  go_upto_region 73 with fail
                                                  go_cut [58] from 58 to 58 (fun s58 wd' => s58 = .int .u64 np ∧ Below wc.heap.size wc wd')
                                                  case first =>
                                                    as_aux_lemma =>
                                                      go_wp2_with (go_at_call 7; (with_reducible refine (HZ2.out _ _ _ _ ?_ ?_ ?_).mono ?_); (exact Below.refl _ _); (first | rfl | omega); omega; rintro e w5 ⟨rfl, hb5⟩)
                                                      all_goals (try go_wp2_with fail)
                                                      go_meet
                                                      exact ⟨rfl, hb5⟩
                                                  case rest =>
                                                    as_aux_lemma =>
                                                      obtain ⟨rfl, hb5⟩ := hcut
                                                      have HS8 := hid (HS.out.below HOk.out hb5)
                                                      clear HS HEQ2 t1 t2 t3 t4 t5 t6 hb5 HZ2
                                                      have HS := hid HS8.out
                                                      clear HS8
                                                      have t1 : wc.cell? ⟨N' + 1, 2, none⟩ = some (.int .i64 fa) := HS.out.env.d2
                                                      have t2 : wc.cell? ⟨N' + 1, 1, none⟩ = some (.int .i64 ((0 : Nat) : Int)) := HS.out.env.d1
                                                      have t3 : wc.cell? ⟨N' + 1 + 1 + 1 + 1 + 1, 5, none⟩ = some (.int .i64 nf) := HS.out.env.tN
                                                      have t4 : wc.cell? ⟨N' + 1 + 1 + 1 + 1 + 1, 29, none⟩ = some (.int .u64 po) := HS.out.env.tP2
                                                      have t5 : wc.cell? ⟨N' + 1 + 1 + 1, 5, none⟩ = some (.int .u64 ro) := HS.out.env.r5
                                                      have t6 : wc.cell? ⟨N' + 1 + 1 + 1, 6, none⟩ = some (.int .u64 fz) := HS.out.env.r6
                                                      have HEQ2 := hid (equal_any w.heap.size sg L L cap2 fl wc HFL.out HS.out.env.file HS.out.snap)
                                                      have ty : wc.cell? ⟨sg, k2 + (sz - 1), none⟩ = some (.int .u8 y) := by
                                                        have := HS.out.snap (k2 + (sz - 1)) (by show k2 + (sz - 1) < L; omega)
                                                        rw [← HY.out] at this
                                                        exact this
                                                      go_upto_region 74 with fail
                                                      go_cut [59] from 59 to 59 (fun s59 wd' => s59 = .int .u64 y ∧ wd' = wc)
                                                      case first =>
                                                        as_aux_lemma =>
                                                          rcases hsz8 with rfl | rfl
                                                          · go_wp2_with fail
                                                            go_meet
                                                            exact ⟨rfl, rfl⟩
                                                          · go_wp2_with fail
                                                            go_meet
                                                            exact ⟨rfl, rfl⟩
                                                      case rest =>
                                                        as_aux_lemma =>
                                                          obtain ⟨rfl, rfl⟩ := hcut
                                                          go_upto_region 75 with fail
                                                          go_cut [50] from 50 to 50 (fun s50 wd' => s50 = .int .u64 M ∧ wd' = wc)
                                                          case first =>
                                                            as_aux_lemma =>
                                                              rcases Nat.lt_or_ge E0 (rc + sz + 4 * (np + y)) with hmx | hmx
                                                              · have e1 := hid (p := (rc : Int) + sz + 4 * (np + y) = M) (by have := HM.out; omega)
                                                                go_wp2_with fail
                                                                go_meet
                                                                exact ⟨congrArg (Value.int .u64) e1.out, rfl⟩
                                                              · have e1 := hid (p := (E0 : Int) = M) (by have := HM.out; omega)
                                                                go_wp2_with fail
                                                                go_meet
                                                                exact ⟨congrArg (Value.int .u64) e1.out, rfl⟩
                                                          case rest =>
                                                            as_aux_lemma =>
                                                              obtain ⟨rfl, rfl⟩ := hcut
                                                              go_wp2_with (go_at_call 9; (with_reducible refine HEQ2.out.mono ?_); rintro e w9 ⟨rfl, rfl⟩)
                                                              go_ret
                                                              exact ⟨rfl, HS.out.low⟩
end Go.Proofs.YbulkdxxmFmt
