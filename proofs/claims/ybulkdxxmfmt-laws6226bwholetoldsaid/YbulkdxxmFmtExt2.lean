/-
  extent, where the first read gives its four bytes.
-/
import Derived.Test.YbulkdxxmFmtExt
namespace Go.Proofs.YbulkdxxmFmt
open Go.RowKit Go.Extern.Stop Go.Stop Go.Extern

/-- Where the last pair's record offset lies in the file; the record's offset; where the record lies in the part. -/
def Box.k1 (x : Box) (fd : Nat) : Nat := x.roff + (x.poff + (fd + 8 * x.nf - 4))
def Box.rc (x : Box) (f : List Int) (fd : Nat) : Nat := fd + four x.big f (x.k1 fd)
def Box.k2 (x : Box) (f : List Int) (fd : Nat) : Nat := x.roff + (x.poff + x.rc f fd)
/-- The end that the record's counts give. -/
def Box.far (x : Box) (f : List Int) (fd : Nat) : Nat := x.rc f fd + x.sz + 4 * (four x.big f (x.k2 f fd + 28) + (f.getD (x.k2 f fd + (x.sz - 1)) 0).toNat)

/-- How extent ends behind the first read. -/
def Ends (x : Box) (f : List Int) (c fd : Nat) (w : World) (e : Ending) (w' : World) : Prop :=
  (x.held ≤ x.poff + x.rc f fd ∧ e = .returned (.tuple #[.int .u64 ((fd + 8 * x.nf + 8 : Nat) : Int), .nilIface]) ∧ Kept x.db (x.next c) w w') ∨
  (x.poff + x.rc f fd < x.held ∧ x.mapped = false ∧ x.next c = x.fail ∧ ∃ pb, e = .returned (.tuple #[.int .u64 0, .iface 100 (.pointer (some ⟨pb, 0, none⟩))]) ∧ w'.cell? ⟨pb, 1, none⟩ = some (.iface 67 (.pointer (some ⟨x.sb, 0, none⟩))) ∧ Kept x.db (x.fail + 1) w w') ∨
  (x.poff + x.rc f fd < x.held ∧ x.may (x.next c) ∧ x.held - (x.poff + x.rc f fd) < x.sz ∧ e = .returned (.tuple #[.int .u64 ((fd + 8 * x.nf + 8 : Nat) : Int), .nilIface]) ∧ Kept x.db (x.next (x.next c)) w w') ∨
  (x.poff + x.rc f fd < x.held ∧ x.may (x.next c) ∧ x.sz ≤ x.held - (x.poff + x.rc f fd) ∧ e = .returned (.tuple #[.int .u64 ((max (fd + 8 * x.nf + 8) (x.far f fd) : Nat) : Int), .nilIface]) ∧ Kept x.db (x.next (x.next c)) w w')

theorem wrap_rc (fd v : Nat) (hfd : fd < 32) (hv : v < 4294967296) : IntKind.u64.wrap ((fd : Int) + IntKind.u64.wrap (v : Int)) = ((fd + v : Nat) : Int) := by
  simp only [Go.IntKind.wrap_u64]
  omega
theorem wrap_sz (s : Nat) (h : s < 100) : IntKind.u64.wrap (s : Int) = (s : Int) := by
  simp only [Go.IntKind.wrap_u64]
  omega

set_option maxRecDepth 100000 in
set_option maxHeartbeats 1000000 in
theorem ext_some (F : Interp) (x : Box) (f : List Int) (c fd : Nat) (w : World) (hF : F.answers w.tape) (hx : x.Ok) (hE : Env x f c w) (hs : x.sz = 40 ∨ x.sz = 44) (hc : x.may c) (hc0 : c = 0) (hfd : fd < 32) (hn : 0 < x.nf) (hp1 : x.poff + (fd + 8 * x.nf - 4) + 4 ≤ x.held) :
    Calls Ybaf.prog 6 #[.pointer (some ⟨x.tb, 0, none⟩), .int .u64 fd] w (Ends x f c fd w) := by
  have hbA := (Below.refl _ w).alloc (Nat.le_refl _) x.partObj
  have hdb : w.heap.size ≠ x.db := by have h : x.db < w.heap.size := World.block_lt_of_cell? _ _ hE.d1; omega
  have HC := hid (p := ∀ W z, z = (fd : Int) + 8 * x.nf - 4 → Below (w.alloc x.partObj).heap.size (w.alloc x.partObj) W → Calls Ybaf.prog 10 #[x.part, .int .u64 z, .int .u64 4] W
      fun e w' => ∃ b o, e = .returned (.tuple #[.slice (some ⟨b, o, none⟩) 4 4, .nilIface]) ∧ (∀ i, i < 4 → w'.cell? ⟨b, o + i, none⟩ = some (.int .u8 (f.getD (x.k1 fd + i) 0))) ∧ Kept x.db (x.next c) w w' ∧ w'.cell? ⟨x.tb, 5, none⟩ = some (.int .i64 x.nf) ∧ PartAt x w.heap.size w') fun W z hz hW => by
    subst hz
    have hEA := hE.below hx hbA
    have hEW := hEA.below hx hW
    have := at_ok x f c (fd + 8 * x.nf - 4) 4 4 W hx hEW hc (by omega) (by decide) (by decide) (by omega)
    rw [show ((fd + 8 * x.nf - 4 : Nat) : Int) = (fd : Int) + 8 * x.nf - 4 by omega] at this
    refine this.mono fun e w' ⟨b, o, h1, h2, h3⟩ => ⟨b, o, h1, h2, (Kept.of_below hbA hE.d1).trans ((Kept.of_below hW hEA.d1).trans h3), (hEW.kept hx h3).tN, (((part_new x w).kept (Kept.of_below hW hEA.d1) hdb).kept h3 hdb)⟩
  obtain ⟨h1, h2, h3, h4, h5, hlt⟩ := ext_facts x f _ w hE
  have hnf := hx.nf
  have HZ := hid (wrap_from fd x.nf hfd hn hx.nf)
  have HE := hid hE
  have HX := hid hx
  have HF := hid hF
  have hv := (four_num (big := x.big) hE.byte (x.k1 fd)).2
  clear hE hx hF hp1 hbA
  unfold Box.part at HC
  go_enter Ybaf.func6, Ybaf.ntmps6
  go_upto_region 5 with fail
  go_cut [8, 9] (fun s8 s9 wc => s9 = .nilIface ∧ ∃ b o, s8 = .slice (some ⟨b, o, none⟩) 4 4 ∧ (∀ i, i < 4 → wc.cell? ⟨b, o + i, none⟩ = some (.int .u8 (f.getD (x.k1 fd + i) 0))) ∧ Kept x.db (x.next c) w wc ∧ PartAt x w.heap.size wc)
  case first =>
    go_region_with (go_at_call 10; (with_reducible refine (HC.out _ _ ?_ ?_).mono ?_); (exact HZ.out); (exact (Below.refl _ _).drew); rintro e w1 ⟨b, o, rfl, hr1, hr2, q5, hpa⟩)
    all_goals (try go_wp2_with fail)
    all_goals go_meet
    all_goals exact ⟨rfl, b, o, rfl, hr1, hr2, hpa⟩
  case rest =>
    obtain ⟨rfl, b, o, rfl, hr1, hr2, hpa⟩ := hcut
    have hEc := HE.out.kept HX.out hr2
    have HC8 := hid (p := ∀ W, Below wc.heap.size wc W → Calls Ybaf.prog 11 #[.pointer (some ⟨x.tb, 0, none⟩), .slice (some ⟨b, o, none⟩) 4 4] W
        fun e w' => e = .returned (.int .u32 (four x.big f (x.k1 fd))) ∧ Below wc.heap.size wc w' ∧ w'.cell? ⟨x.tb, 1, none⟩ = some (.pointer (some ⟨x.lb, 0, none⟩)) ∧ w'.cell? ⟨x.lb, 2, none⟩ = some (.int .i64 x.sz)) fun W hW =>
      (t32f x f b o 4 4 (x.k1 fd) W hEc.byte (hEc.below HX.out hW).tOrd (fun i hi => cell_later hW (hr1 i hi)) (by decide)).mono fun e w' ⟨g1, g2⟩ => by
        have hB : Below wc.heap.size wc w' := hW.trans (g2.mono hW.size)
        exact ⟨g1, hB, (hEc.below HX.out hB).tLay, (hEc.below HX.out hB).lay⟩
    have e1 := hEc.tLay
    have e2 := hEc.lay
    have HR := hid (And.intro hr2 hpa)
    have HS := hid hs
    have hs3 : x.sz < 100 := by omega
    have HWR := hid (wrap_rc fd (four x.big f (x.k1 fd)) hfd hv)
    have HWS := hid (wrap_sz x.sz hs3)
    clear hr1 hr2 hpa hEc hs
    go_upto_region 8 with fail
    go_cut [10, 11] (fun s10 s11 wd => s10 = .int .u64 ((x.rc f fd : Nat) : Int) ∧ s11 = .int .u64 (x.sz : Nat) ∧ Below wc.heap.size wc wd)
    case first =>
      go_region_with (go_at_call 11; (with_reducible refine (HC8.out _ ?_).mono ?_); (exact (Below.refl _ _).drew); rintro e w2 ⟨rfl, hb2, q1, q2⟩)
      all_goals (try go_wp2_with fail)
      all_goals go_meet
      all_goals exact ⟨congrArg (Value.int .u64) HWR.out, congrArg (Value.int .u64) HWS.out, hb2⟩
    case rest =>
      obtain ⟨rfl, rfl, hbd⟩ := hcut
      have hkd := HR.out.1.trans (Kept.of_below hbd HR.out.1.d1)
      have hpd := HR.out.2.kept (Kept.of_below hbd HR.out.1.d1) hdb
      have hEd := HE.out.kept HX.out hkd
      have HKD := hid hkd
      clear HR HC8 HC e1 e2 hbd hkd h1 h2 h3 h4 h5 HWR HWS
      obtain ⟨p0, p1, p2, p3⟩ := hpd
      have hrc : x.rc f fd < 4294967400 := by unfold Box.rc; omega
      have hszz := HS.out
      rcases Nat.lt_or_ge (x.poff + x.rc f fd) x.held with hlt2 | hge
      · by_cases hmay : x.may (x.next c)
        · rcases Nat.lt_or_ge (x.held - (x.poff + x.rc f fd)) x.sz with hsh | hfl
          · have HP := hid (at_ok x f (x.next c) (x.rc f fd) x.sz (x.held - (x.poff + x.rc f fd)) wc HX.out hEd hmay hlt2 (by omega) (by omega) (by omega))
            have hne : (((x.held - (x.poff + x.rc f fd) : Nat) : Int) == (x.sz : Int)) = false := beq_eq_false_iff_ne.2 (by omega)
            unfold Box.part at HP
            have HM := hid hmay
            clear hEd hmay hc
            go_wp2_with (go_at_call 10; (with_reducible refine HP.out.mono ?_); rintro e w3 ⟨b2, o2, rfl, hc3, hk3⟩)
            all_goals (try go_wp2)
            go_ret2
            exact Or.inr (Or.inr (Or.inl ⟨hlt2, HM.out, hsh, ret2 (congrArg (Value.int .u64) (by omega)) rfl, HKD.out.trans hk3⟩))
          · have hby := HE.out.byte (x.k2 f fd + (x.sz - 1))
            have hv2 := (four_num (big := x.big) HE.out.byte (x.k2 f fd + 28)).2
            have HO := hid (p := ∀ b2 o2 w3, (∀ i, i < x.sz → w3.cell? ⟨b2, o2 + i, none⟩ = some (.int .u8 (f.getD (x.k2 f fd + i) 0))) → Kept x.db (x.next (x.next c)) wc w3 → Calls Ybaf.prog 12 #[.pointer (some ⟨x.tb, 0, none⟩), .slice (some ⟨b2, o2, none⟩) x.sz x.sz] w3
                fun e w' => e = .returned (.tuple #[.int .u64 (four x.big f (x.k2 f fd + 28)), .int .u64 (f.getD (x.k2 f fd + (x.sz - 1)) 0)]) ∧ Kept x.db (x.next (x.next c)) w w') fun b2 o2 w3 hc3 hk3 =>
              (oc_any x f (x.next (x.next c)) b2 o2 (x.k2 f fd) x.sz w3 (hEd.kept HX.out hk3) rfl HS.out hc3).mono fun e w' ⟨g1, g2⟩ => ⟨g1, HKD.out.trans (hk3.trans (Kept.of_below g2 hk3.d1))⟩
            have HP := hid (at_ok x f (x.next c) (x.rc f fd) x.sz x.sz wc HX.out hEd hmay hlt2 (by omega) (by omega) (by omega))
            have heq : ((x.sz : Int) == (x.sz : Int)) = true := beq_self_eq_true _
            unfold Box.part at HP
            have HM := hid hmay
            have HFar := hid (p := x.far f fd = x.rc f fd + x.sz + 4 * (four x.big f (x.k2 f fd + 28) + (f.getD (x.k2 f fd + (x.sz - 1)) 0).toNat)) rfl
            clear hEd hmay hc
            generalize f.getD (x.k2 f fd + (x.sz - 1)) 0 = y at *
            generalize four x.big f (x.k2 f fd + 28) = np at *
            rcases Nat.lt_or_ge (fd + 8 * x.nf + 8) (x.rc f fd + x.sz + 4 * (np + y.toNat)) with hmx | hmx
            · go_wp2_with (first
                | (go_at_call 10; (with_reducible refine HP.out.mono ?_); rintro e w3 ⟨b2, o2, rfl, hc3, hk3⟩; have HO2 := hid (HO.out b2 o2 w3 hc3 hk3); clear hc3 hk3)
                | (go_at_call 12; (with_reducible refine HO2.out.mono ?_); rintro e w4 ⟨rfl, hk4⟩))
              all_goals (try go_wp2)
              go_ret2
              exact Or.inr (Or.inr (Or.inr ⟨hlt2, HM.out, hfl, ret2 (congrArg (Value.int .u64) (by have := HFar.out; omega)) rfl, hk4⟩))
            · go_wp2_with (first
                | (go_at_call 10; (with_reducible refine HP.out.mono ?_); rintro e w3 ⟨b2, o2, rfl, hc3, hk3⟩; have HO2 := hid (HO.out b2 o2 w3 hc3 hk3); clear hc3 hk3)
                | (go_at_call 12; (with_reducible refine HO2.out.mono ?_); rintro e w4 ⟨rfl, hk4⟩))
              all_goals (try go_wp2)
              go_ret2
              exact Or.inr (Or.inr (Or.inr ⟨hlt2, HM.out, hfl, ret2 (congrArg (Value.int .u64) (by have := HFar.out; omega)) rfl, hk4⟩))
        · obtain ⟨hmp, hnx⟩ : x.mapped = false ∧ x.next c = x.fail := by
            unfold Box.may at hmay
            cases hmm : x.mapped with
            | true => exact absurd (Or.inl hmm) hmay
            | false =>
              refine ⟨rfl, ?_⟩
              have hnn : x.next c = c + 1 := by unfold Box.next; rw [hmm]; rfl
              by_cases hq : x.next c = x.fail
              · exact hq
              · exact absurd (Or.inr ⟨hmm, hq, by omega⟩) hmay
          have HP := hid (at_fail F x f (x.rc f fd) x.sz wc (by rw [HKD.out.tape]; exact HF.out) HX.out (by rw [← hnx]; exact hEd) hmp hlt2 (by omega) (by omega))
          unfold Box.part at HP
          have HM := hid (And.intro hmp hnx)
          clear hEd hmay hc hmp hnx
          go_wp2_with (go_at_call 10; (with_reducible refine HP.out.mono ?_); rintro e w3 ⟨pb, rfl, hc3, hk3⟩)
          all_goals (try go_wp2)
          go_ret2
          exact Or.inr (Or.inl ⟨hlt2, HM.out.1, HM.out.2, pb, rfl, hc3, HKD.out.trans hk3⟩)
      · have HP := hid (at_past x f (x.next c) (x.rc f fd) x.sz wc HX.out hEd (by omega) hge)
        have hne : ((0 : Int) == (x.sz : Int)) = false := beq_eq_false_iff_ne.2 (by omega)
        unfold Box.part at HP
        clear hEd hc
        go_wp2_with (go_at_call 10; (with_reducible refine HP.out.mono ?_); rintro e w3 ⟨rfl, hk3⟩)
        all_goals (try go_wp2)
        go_ret2
        exact Or.inl ⟨hge, ret2 (congrArg (Value.int .u64) (by omega)) rfl, HKD.out.trans hk3⟩
end Go.Proofs.YbulkdxxmFmt
