/-
  regionBytes, at.
-/
import Derived.Test.YbulkdxxmFmtBytes
namespace Go.Proofs.YbulkdxxmFmt
open Go.RowKit Go.Extern.Stop Go.Stop Go.Extern

theorem hid {p : Prop} (h : p) : Hid p := h

theorem held_le (x : Box) (hx : x.Ok) : x.held ≤ 2000000 ∧ x.roff + x.held ≤ x.L := by
  have := hx.L1; have := hx.L2; have := hx.roff; have := hx.fz
  unfold Box.held
  omega

set_option maxRecDepth 100000 in
set_option maxHeartbeats 400000 in
theorem rg_past (x : Box) (f : List Int) (c fr n : Nat) (w : World) (hx : x.Ok) (h : Env x f c w) (hp : x.held ≤ fr) :
    Calls Ybaf.prog 15 #[.pointer (some ⟨x.ib, 0, none⟩), .pointer (some ⟨x.rb, 0, none⟩), .int .u64 fr, .int .u64 n] w
      fun e w' => e = .returned (.tuple #[.slice none 0 0, .nilIface]) ∧ Below w.heap.size w w' := by
  have HC := show Hid (Calls Ybaf.prog 18 #[.pointer (some ⟨x.ib, 0, none⟩), .pointer (some ⟨x.rb, 0, none⟩)] w fun e w' => e = .returned (.int .u64 (x.held : Nat)) ∧ Below w.heap.size w w') from held_any x f c w hx h
  clear h hx
  generalize x.held = hd at *
  go_enter Ybaf.func15, Ybaf.ntmps15
  go_wp2_with (go_at_call 18; refine HC.out.mono ?_; rintro e w1 ⟨rfl, hb⟩)
  all_goals (try go_wp2)
  go_ret2
  exact ⟨rfl, hb⟩

set_option maxRecDepth 100000 in
set_option maxHeartbeats 400000 in
theorem rg_ok (x : Box) (f : List Int) (c fr n m : Nat) (w : World) (hx : x.Ok) (h : Env x f c w) (hc : x.may c) (hp : fr < x.held) (hn : 0 < n) (hn2 : n < 4294967296) (hm : m = min n (x.held - fr)) :
    Calls Ybaf.prog 15 #[.pointer (some ⟨x.ib, 0, none⟩), .pointer (some ⟨x.rb, 0, none⟩), .int .u64 fr, .int .u64 n] w
      fun e w' => ∃ b o, e = .returned (.tuple #[.slice (some ⟨b, o, none⟩) m m, .nilIface]) ∧ (∀ i, i < m → w'.cell? ⟨b, o + i, none⟩ = some (.int .u8 (f.getD (x.roff + fr + i) 0))) ∧ Kept x.db (x.next c) w w' := by
  have HC := show Hid (Calls Ybaf.prog 18 #[.pointer (some ⟨x.ib, 0, none⟩), .pointer (some ⟨x.rb, 0, none⟩)] w fun e w' => e = .returned (.int .u64 (x.held : Nat)) ∧ Below w.heap.size w w') from held_any x f c w hx h
  have hh := held_le x hx
  have HE := show Hid (∀ w1, Below w.heap.size w w1 → w1.cell? ⟨x.rb, 5, none⟩ = some (.int .u64 x.roff) ∧ Kept x.db c w w1 ∧ Calls Ybaf.prog 19 #[.pointer (some ⟨x.ib, 0, none⟩), .int .u64 ((x.roff : Int) + fr), .int .u64 m] w1
      fun e w' => ∃ b o, e = .returned (.tuple #[.slice (some ⟨b, o, none⟩) m m, .nilIface]) ∧ (∀ i, i < m → w'.cell? ⟨b, o + i, none⟩ = some (.int .u8 (f.getD (x.roff + fr + i) 0))) ∧ Kept x.db (x.next c) w1 w') from
    fun w1 hb => ⟨(h.below hx hb).r5, Kept.of_below hb h.d1, fb_ok x f c (x.roff + fr) m w1 hx (h.below hx hb) hc (by omega) (by omega)⟩
  have := hx.roff
  clear h hx hc
  rcases Nat.lt_or_ge (x.held - fr) n with hlt | hge
  · obtain rfl : m = x.held - fr := by omega
    have e1 : ((x.held - fr : Nat) : Int) = (x.held : Int) - fr := by omega
    rw [e1] at HE
    clear hm
    go_enter Ybaf.func15, Ybaf.ntmps15
    go_wp2_with (first
      | (go_at_call 18; refine HC.out.mono ?_; rintro e w1 ⟨rfl, hb⟩; obtain ⟨q5, hk0, hcc⟩ := HE.out _ hb; have HK0 := show Hid (Kept x.db c w w1) from hk0; have HCC := hid hcc; clear hk0 hcc hb)
      | (go_at_call 19; refine HCC.out.mono ?_; rintro e w2 ⟨b, o, rfl, hr1, hr2⟩))
    all_goals (try go_wp2)
    go_ret2
    exact ⟨b, o, rfl, hr1, HK0.out.trans hr2⟩
  · obtain rfl : m = n := by omega
    clear hm
    go_enter Ybaf.func15, Ybaf.ntmps15
    go_wp2_with (first
      | (go_at_call 18; refine HC.out.mono ?_; rintro e w1 ⟨rfl, hb⟩; obtain ⟨q5, hk0, hcc⟩ := HE.out _ hb; have HK0 := show Hid (Kept x.db c w w1) from hk0; have HCC := hid hcc; clear hk0 hcc hb)
      | (go_at_call 19; refine HCC.out.mono ?_; rintro e w2 ⟨b, o, rfl, hr1, hr2⟩))
    all_goals (try go_wp2)
    go_ret2
    exact ⟨b, o, rfl, hr1, HK0.out.trans hr2⟩

set_option maxRecDepth 100000 in
set_option maxHeartbeats 400000 in
theorem rg_fail (F : Interp) (x : Box) (f : List Int) (fr n m : Nat) (w : World) (hF : F.answers w.tape) (hx : x.Ok) (h : Env x f x.fail w) (hmp : x.mapped = false) (hp : fr < x.held) (hn : 0 < n) (hn2 : n < 4294967296) (hm : m = min n (x.held - fr)) :
    Calls Ybaf.prog 15 #[.pointer (some ⟨x.ib, 0, none⟩), .pointer (some ⟨x.rb, 0, none⟩), .int .u64 fr, .int .u64 n] w
      fun e w' => ∃ pb, e = .returned (.tuple #[.slice none 0 0, .iface 100 (.pointer (some ⟨pb, 0, none⟩))]) ∧ w'.cell? ⟨pb, 1, none⟩ = some (.iface 67 (.pointer (some ⟨x.sb, 0, none⟩))) ∧ Kept x.db (x.fail + 1) w w' := by
  have HC := show Hid (Calls Ybaf.prog 18 #[.pointer (some ⟨x.ib, 0, none⟩), .pointer (some ⟨x.rb, 0, none⟩)] w fun e w' => e = .returned (.int .u64 (x.held : Nat)) ∧ Below w.heap.size w w') from held_any x f x.fail w hx h
  have hh := held_le x hx
  have HE := show Hid (∀ w1, Below w.heap.size w w1 → w1.cell? ⟨x.rb, 5, none⟩ = some (.int .u64 x.roff) ∧ Kept x.db x.fail w w1 ∧ Calls Ybaf.prog 19 #[.pointer (some ⟨x.ib, 0, none⟩), .int .u64 ((x.roff : Int) + fr), .int .u64 m] w1
      fun e w' => e = .returned (.tuple #[.slice none 0 0, .iface 67 (.pointer (some ⟨x.sb, 0, none⟩))]) ∧ Kept x.db (x.fail + 1) w1 w') from
    fun w1 hb => ⟨(h.below hx hb).r5, Kept.of_below hb h.d1, fb_fail x f (x.roff + fr) m w1 hx (h.below hx hb) hmp (by omega) (by omega)⟩
  have HG := show Hid (∀ w1 w2, Kept x.db x.fail w w1 → Kept x.db (x.fail + 1) w1 w2 → Calls Ybaf.prog 20 #[.pointer (some ⟨x.rb, 0, none⟩), .iface 67 (.pointer (some ⟨x.sb, 0, none⟩))] w2
      fun e w' => ∃ pb, e = .returned (.iface 100 (.pointer (some ⟨pb, 0, none⟩))) ∧ w'.cell? ⟨pb, 1, none⟩ = some (.iface 67 (.pointer (some ⟨x.sb, 0, none⟩))) ∧ Kept x.db (x.fail + 1) w w') from
    fun w1 w2 k1 k2 => (readError_any F x f (x.fail + 1) w2 (by rw [(k1.trans k2).tape]; exact hF) hx (h.kept hx (k1.trans k2))).mono fun e w' ⟨pb, h1, h2, h3⟩ => ⟨pb, h1, h2, (k1.trans k2).trans (Kept.of_below h3 k2.d1)⟩
  have := hx.roff
  clear h hx hmp hF
  rcases Nat.lt_or_ge (x.held - fr) n with hlt | hge
  · obtain rfl : m = x.held - fr := by omega
    have e1 : ((x.held - fr : Nat) : Int) = (x.held : Int) - fr := by omega
    rw [e1] at HE
    clear hm
    go_enter Ybaf.func15, Ybaf.ntmps15
    go_wp2_with (first
      | (go_at_call 18; refine HC.out.mono ?_; rintro e w1 ⟨rfl, hb⟩; obtain ⟨q5, hk0, hcc⟩ := HE.out _ hb; have HK0 := show Hid (Kept x.db x.fail w w1) from hk0; have HCC := hid hcc; clear hk0 hcc hb)
      | (go_at_call 19; refine HCC.out.mono ?_; rintro e w2 ⟨rfl, hr2⟩; have HCD := hid (HG.out _ _ HK0.out hr2); clear hr2)
      | (go_at_call 20; refine HCD.out.mono ?_; rintro e w3 ⟨pb, rfl, hr3, hr4⟩))
    all_goals (try go_wp2)
    go_ret2
    exact ⟨pb, rfl, hr3, hr4⟩
  · obtain rfl : m = n := by omega
    clear hm
    go_enter Ybaf.func15, Ybaf.ntmps15
    go_wp2_with (first
      | (go_at_call 18; refine HC.out.mono ?_; rintro e w1 ⟨rfl, hb⟩; obtain ⟨q5, hk0, hcc⟩ := HE.out _ hb; have HK0 := show Hid (Kept x.db x.fail w w1) from hk0; have HCC := hid hcc; clear hk0 hcc hb)
      | (go_at_call 19; refine HCC.out.mono ?_; rintro e w2 ⟨rfl, hr2⟩; have HCD := hid (HG.out _ _ HK0.out hr2); clear hr2)
      | (go_at_call 20; refine HCD.out.mono ?_; rintro e w3 ⟨pb, rfl, hr3, hr4⟩))
    all_goals (try go_wp2)
    go_ret2
    exact ⟨pb, rfl, hr3, hr4⟩

/-- A regionPart, by value. -/
def Box.part (x : Box) : Value := .agg #[.pointer (some ⟨x.ib, 0, none⟩), .pointer (some ⟨x.rb, 0, none⟩), .int .u64 x.poff, .int .u64 0]

set_option maxRecDepth 100000 in
set_option maxHeartbeats 400000 in
/-- 'at', whatever regionBytes does. -/
theorem at_any (x : Box) (fr n : Nat) (w : World) (hx : x.Ok) (hfr : fr < 18446744073709000000) (Q : Value → Value → World → Prop)
    (HC : Hid (∀ W, W = w.alloc (.cells #[.pointer (some ⟨x.ib, 0, none⟩), .pointer (some ⟨x.rb, 0, none⟩), .int .u64 x.poff, .int .u64 0] 54) →
      Calls Ybaf.prog 15 #[.pointer (some ⟨x.ib, 0, none⟩), .pointer (some ⟨x.rb, 0, none⟩), .int .u64 ((x.poff : Int) + fr), .int .u64 n] W fun e w' => ∃ v1 v2, e = .returned (.tuple #[v1, v2]) ∧ Q v1 v2 w')) :
    Calls Ybaf.prog 10 #[x.part, .int .u64 fr, .int .u64 n] w fun e w' => ∃ v1 v2, e = .returned (.tuple #[v1, v2]) ∧ Q v1 v2 w' := by
  have := hx.poff
  clear hx
  unfold Box.part
  go_enter Ybaf.func10, Ybaf.ntmps10
  go_wp2_with (go_at_call 15; refine (HC.out _ ?_).mono ?_; rfl; rintro e w1 ⟨v1, v2, rfl, hr⟩)
  all_goals (try go_wp2)
  go_ret2
  exact ⟨_, _, rfl, hr⟩

theorem at_past (x : Box) (f : List Int) (c fr n : Nat) (w : World) (hx : x.Ok) (h : Env x f c w) (hfr : fr < 18446744073709000000) (hp : x.held ≤ x.poff + fr) :
    Calls Ybaf.prog 10 #[x.part, .int .u64 fr, .int .u64 n] w fun e w' => e = .returned (.tuple #[.slice none 0 0, .nilIface]) ∧ Kept x.db c w w' := by
  have hb := (Below.refl _ w).alloc (Nat.le_refl _) (.cells #[.pointer (some ⟨x.ib, 0, none⟩), .pointer (some ⟨x.rb, 0, none⟩), .int .u64 x.poff, .int .u64 0] 54)
  refine (at_any x fr n w hx hfr (fun v1 v2 w' => v1 = .slice none 0 0 ∧ v2 = .nilIface ∧ Kept x.db c w w') (show Hid _ from fun W hW => ?_)).mono ?_
  · rw [hW]
    exact (rg_past x f c (x.poff + fr) n _ hx (h.alloc hx _) hp).mono fun e w' ⟨h1, h2⟩ => ⟨_, _, h1, rfl, rfl, (Kept.of_below hb h.d1).trans (Kept.of_below h2 (h.alloc hx _).d1)⟩
  · rintro e w' ⟨v1, v2, rfl, rfl, rfl, h3⟩
    exact ⟨rfl, h3⟩

theorem at_ok (x : Box) (f : List Int) (c fr n m : Nat) (w : World) (hx : x.Ok) (h : Env x f c w) (hc : x.may c) (hp : x.poff + fr < x.held) (hn : 0 < n) (hn2 : n < 4294967296) (hm : m = min n (x.held - (x.poff + fr))) :
    Calls Ybaf.prog 10 #[x.part, .int .u64 fr, .int .u64 n] w
      fun e w' => ∃ b o, e = .returned (.tuple #[.slice (some ⟨b, o, none⟩) m m, .nilIface]) ∧ (∀ i, i < m → w'.cell? ⟨b, o + i, none⟩ = some (.int .u8 (f.getD (x.roff + (x.poff + fr) + i) 0))) ∧ Kept x.db (x.next c) w w' := by
  have hb := (Below.refl _ w).alloc (Nat.le_refl _) (.cells #[.pointer (some ⟨x.ib, 0, none⟩), .pointer (some ⟨x.rb, 0, none⟩), .int .u64 x.poff, .int .u64 0] 54)
  have hh := held_le x hx
  refine (at_any x fr n w hx (by omega) (fun v1 v2 w' => ∃ b o, v1 = .slice (some ⟨b, o, none⟩) m m ∧ v2 = .nilIface ∧ (∀ i, i < m → w'.cell? ⟨b, o + i, none⟩ = some (.int .u8 (f.getD (x.roff + (x.poff + fr) + i) 0))) ∧ Kept x.db (x.next c) w w') (show Hid _ from fun W hW => ?_)).mono ?_
  · rw [hW]
    exact (rg_ok x f c (x.poff + fr) n m _ hx (h.alloc hx _) hc hp hn hn2 hm).mono fun e w' ⟨b, o, h1, h2, h3⟩ => ⟨_, _, h1, b, o, rfl, rfl, h2, (Kept.of_below hb h.d1).trans h3⟩
  · rintro e w' ⟨v1, v2, rfl, b, o, rfl, rfl, h2, h3⟩
    exact ⟨b, o, rfl, h2, h3⟩

theorem at_fail (F : Interp) (x : Box) (f : List Int) (fr n : Nat) (w : World) (hF : F.answers w.tape) (hx : x.Ok) (h : Env x f x.fail w) (hmp : x.mapped = false) (hp : x.poff + fr < x.held) (hn : 0 < n) (hn2 : n < 4294967296) :
    Calls Ybaf.prog 10 #[x.part, .int .u64 fr, .int .u64 n] w
      fun e w' => ∃ pb, e = .returned (.tuple #[.slice none 0 0, .iface 100 (.pointer (some ⟨pb, 0, none⟩))]) ∧ w'.cell? ⟨pb, 1, none⟩ = some (.iface 67 (.pointer (some ⟨x.sb, 0, none⟩))) ∧ Kept x.db (x.fail + 1) w w' := by
  have hb := (Below.refl _ w).alloc (Nat.le_refl _) (.cells #[.pointer (some ⟨x.ib, 0, none⟩), .pointer (some ⟨x.rb, 0, none⟩), .int .u64 x.poff, .int .u64 0] 54)
  have hh := held_le x hx
  refine (at_any x fr n w hx (by omega) (fun v1 v2 w' => ∃ pb, v1 = .slice none 0 0 ∧ v2 = .iface 100 (.pointer (some ⟨pb, 0, none⟩)) ∧ w'.cell? ⟨pb, 1, none⟩ = some (.iface 67 (.pointer (some ⟨x.sb, 0, none⟩))) ∧ Kept x.db (x.fail + 1) w w') (show Hid _ from fun W hW => ?_)).mono ?_
  · rw [hW]
    exact (rg_fail F x f (x.poff + fr) n _ (w.alloc (.cells #[.pointer (some ⟨x.ib, 0, none⟩), .pointer (some ⟨x.rb, 0, none⟩), .int .u64 x.poff, .int .u64 0] 54)) hF hx (h.alloc hx _) hmp hp hn hn2 rfl).mono fun e w' ⟨pb, h1, h2, h3⟩ => ⟨_, _, h1, pb, rfl, rfl, h2, (Kept.of_below hb h.d1).trans h3⟩
  · rintro e w' ⟨v1, v2, rfl, pb, rfl, rfl, h2, h3⟩
    exact ⟨pb, rfl, h2, h3⟩
end Go.Proofs.YbulkdxxmFmt
