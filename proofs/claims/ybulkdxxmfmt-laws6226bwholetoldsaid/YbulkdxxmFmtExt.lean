/-
  extent.
-/
import Derived.Test.YbulkdxxmFmtCounts
namespace Go.Proofs.YbulkdxxmFmt
open Go.RowKit Go.Extern.Stop Go.Stop Go.Extern

/-- The variable p of extent, at block p. -/
structure PartAt (x : Box) (p : Nat) (w : World) : Prop where
  p0 : w.cell? ⟨p, 0, none⟩ = some (.pointer (some ⟨x.ib, 0, none⟩))
  p1 : w.cell? ⟨p, 1, none⟩ = some (.pointer (some ⟨x.rb, 0, none⟩))
  p2 : w.cell? ⟨p, 2, none⟩ = some (.int .u64 x.poff)
  p3 : w.cell? ⟨p, 3, none⟩ = some (.int .u64 0)

theorem PartAt.kept {x : Box} {p db k : Nat} {w w' : World} (h : PartAt x p w) (g : Kept db k w w') (hp : p ≠ db) : PartAt x p w' :=
  ⟨g.cell h.p0 hp, g.cell h.p1 hp, g.cell h.p2 hp, g.cell h.p3 hp⟩

/-- The block of p. -/
abbrev Box.partObj (x : Box) : Obj := .cells #[.pointer (some ⟨x.ib, 0, none⟩), .pointer (some ⟨x.rb, 0, none⟩), .int .u64 x.poff, .int .u64 0] 54

set_option maxRecDepth 100000 in
set_option maxHeartbeats 400000 in
theorem ext_zero (x : Box) (f : List Int) (c fd : Nat) (w : World) (hE : Env x f c w) (hfd : fd < 32) (hn : x.nf = 0) :
    Calls Ybaf.prog 6 #[.pointer (some ⟨x.tb, 0, none⟩), .int .u64 fd] w fun e w' => e = .returned (.tuple #[.int .u64 ((fd + 8 : Nat) : Int), .nilIface]) ∧ Kept x.db c w w' := by
  have HK := hid (Kept.of_below ((Below.refl _ w).alloc (Nat.le_refl _) x.partObj) hE.d1)
  have h1 := hE.tN
  rw [hn] at h1
  have h2 := hE.tP0
  have h3 := hE.tP1
  have h4 := hE.tP2
  have h5 := hE.tP3
  have hlt := World.block_lt_of_cell? _ _ h1
  clear hE hn
  go_enter Ybaf.func6, Ybaf.ntmps6
  go_wp2
  go_ret2
  exact ⟨ret2 rfl rfl, HK.out⟩

theorem wrap_from (fd nf : Nat) (hfd : fd < 32) (hn : 0 < nf) (hn2 : nf < 12) :
    IntKind.u64.wrap (IntKind.u64.wrap ((fd : Int) + IntKind.u64.wrap (8 * IntKind.u64.wrap (nf : Int))) - 4) = (fd : Int) + 8 * nf - 4 := by
  simp only [Go.IntKind.wrap_u64]
  omega

/-- What extent asks of its table, ahead of the walk. -/
theorem ext_facts (x : Box) (f : List Int) (c : Nat) (w : World) (hE : Env x f c w) : w.cell? ⟨x.tb, 5, none⟩ = some (.int .i64 x.nf) ∧ w.cell? ⟨x.tb, 27, none⟩ = some (.pointer (some ⟨x.ib, 0, none⟩)) ∧
    w.cell? ⟨x.tb, 28, none⟩ = some (.pointer (some ⟨x.rb, 0, none⟩)) ∧ w.cell? ⟨x.tb, 29, none⟩ = some (.int .u64 x.poff) ∧ w.cell? ⟨x.tb, 30, none⟩ = some (.int .u64 0) ∧ x.tb < w.heap.size :=
  ⟨hE.tN, hE.tP0, hE.tP1, hE.tP2, hE.tP3, World.block_lt_of_cell? _ _ hE.tN⟩

theorem part_new (x : Box) (w : World) : PartAt x w.heap.size (w.alloc x.partObj) := ⟨by go_simp, by go_simp, by go_simp, by go_simp⟩

set_option maxRecDepth 100000 in
set_option maxHeartbeats 400000 in
theorem ext_fail1 (F : Interp) (x : Box) (f : List Int) (fd : Nat) (w : World) (hF : F.answers w.tape) (hx : x.Ok) (hE : Env x f x.fail w) (hmp : x.mapped = false) (hfd : fd < 32) (hn : 0 < x.nf) (hp1 : x.poff + (fd + 8 * x.nf - 4) < x.held) :
    Calls Ybaf.prog 6 #[.pointer (some ⟨x.tb, 0, none⟩), .int .u64 fd] w
      fun e w' => ∃ pb, e = .returned (.tuple #[.int .u64 0, .iface 100 (.pointer (some ⟨pb, 0, none⟩))]) ∧ w'.cell? ⟨pb, 1, none⟩ = some (.iface 67 (.pointer (some ⟨x.sb, 0, none⟩))) ∧ Kept x.db (x.fail + 1) w w' := by
  have hbA := (Below.refl _ w).alloc (Nat.le_refl _) x.partObj
  have HC := hid (p := ∀ W z, z = (fd : Int) + 8 * x.nf - 4 → Below (w.alloc x.partObj).heap.size (w.alloc x.partObj) W → Calls Ybaf.prog 10 #[x.part, .int .u64 z, .int .u64 4] W
      fun e w' => ∃ pb, e = .returned (.tuple #[.slice none 0 0, .iface 100 (.pointer (some ⟨pb, 0, none⟩))]) ∧ w'.cell? ⟨pb, 1, none⟩ = some (.iface 67 (.pointer (some ⟨x.sb, 0, none⟩))) ∧ Kept x.db (x.fail + 1) w w' ∧ w'.cell? ⟨x.tb, 5, none⟩ = some (.int .i64 x.nf)) fun W z hz hW => by
    subst hz
    have hEA := hE.below hx hbA
    have hEW := hEA.below hx hW
    have := at_fail F x f (fd + 8 * x.nf - 4) 4 W (by rw [hW.tape]; exact hF) hx hEW hmp hp1 (by decide) (by decide)
    rw [show ((fd + 8 * x.nf - 4 : Nat) : Int) = (fd : Int) + 8 * x.nf - 4 by omega] at this
    refine this.mono fun e w' ⟨pb, h1, h2, h3⟩ => ⟨pb, h1, h2, (Kept.of_below hbA hE.d1).trans ((Kept.of_below hW hEA.d1).trans h3), (hEW.kept hx h3).tN⟩
  obtain ⟨h1, h2, h3, h4, h5, hlt⟩ := ext_facts x f _ w hE
  have := hx.nf
  have HZ := hid (wrap_from fd x.nf hfd hn hx.nf)
  clear hE hx hF hmp hp1 hbA
  unfold Box.part at HC
  go_enter Ybaf.func6, Ybaf.ntmps6
  go_upto_region 5 with fail
  go_cut [8, 9] (fun s8 s9 wc => s8 = .slice none 0 0 ∧ ∃ pb, s9 = .iface 100 (.pointer (some ⟨pb, 0, none⟩)) ∧ wc.cell? ⟨pb, 1, none⟩ = some (.iface 67 (.pointer (some ⟨x.sb, 0, none⟩))) ∧ Kept x.db (x.fail + 1) w wc)
  case first =>
    go_region_with (go_at_call 10; (with_reducible refine (HC.out _ _ ?_ ?_).mono ?_); (exact HZ.out); (exact (Below.refl _ _).drew); rintro e w1 ⟨pb, rfl, hr1, hr2, q5⟩)
    all_goals (try go_wp2_with fail)
    all_goals go_meet
    all_goals exact ⟨rfl, pb, rfl, hr1, hr2⟩
  case rest =>
    obtain ⟨rfl, pb, rfl, hr1, hr2⟩ := hcut
    have HR := hid (And.intro hr1 hr2)
    clear hr1 hr2
    go_wp2
    go_ret2
    exact ⟨pb, rfl, HR.out⟩
end Go.Proofs.YbulkdxxmFmt
