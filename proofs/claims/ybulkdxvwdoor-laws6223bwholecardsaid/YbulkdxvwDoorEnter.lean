import Derived.Test.YbulkdxvwDoorPeek
namespace Go.Proofs.YbulkdxvwDoor
open Go.RowKit

/-- A row of bytes as the walk wants it. -/
def RowAt (w : World) (a : Option Addr) (len : Nat) (l : List Int) : Prop :=
  l.length = len ∧ (0 < len → ∃ b off, a = some ⟨b, off, none⟩ ∧ ∀ i, i < len → w.cell? ⟨b, off + i, none⟩ = some (.int .u8 (l.getD i 0)))

set_option maxHeartbeats 400000 in
theorem same_any (a1 a2 : Option Addr) (len c1 c2 : Nat) (l : List Int) (w : World) (hlen : len ≤ 9223372036854775807)
    (h1 : RowAt w a1 len l) (h2 : RowAt w a2 len l) :
    Calls Ybad.prog 5 #[.slice a1 len c1, .slice a2 len c2] w fun e w' => e = .returned (.bool true) ∧ ∃ n, w' = w.drewN n := by
  have H1 := show Hid (RowAt w a1 len l) from h1
  have H2 := show Hid (RowAt w a2 len l) from h2
  clear h1 h2
  go_enter Ybad.func5, Ybad.ntmps5
  go_wp2
  go_loopw [5] (fun i wr => ∃ k : Nat, k ≤ len ∧ i = .int .i64 k ∧ ∃ n, wr = w.drewN n) (fun i _ => len - (intOf i).toNat)
  case atStart => exact ⟨0, Nat.zero_le _, rfl, 0, rfl⟩
  case round =>
    obtain ⟨k, hk, rfl, n, rfl⟩ := hrel
    by_cases hlt : k < len
    · obtain ⟨b1, o1, rfl, hc1⟩ := H1.out.2 (by omega)
      obtain ⟨b2, o2, rfl, hc2⟩ := H2.out.2 (by omega)
      have g1 := hc1 k hlt
      have g2 := hc2 k hlt
      clear hc1 hc2
      generalize l.getD k 0 = c at *
      go_wp2
      go_quiet (fail)
      go_wp2
      go_roundw
      case rel => exact ⟨k + 1, by omega, by go_num, _, rfl⟩
      case measure => simp [intOf]; omega
    · go_wp2
      go_ret
      exact ⟨rfl, _, rfl⟩

/-- What enter leaves of the reader at block 'rb'. -/
def Entered (rb : Nat) (o' dep' : Int) (w w' : World) : Prop :=
  w'.cell? ⟨rb, 1, none⟩ = some (.int .i64 o') ∧ w'.cell? ⟨rb, 2, none⟩ = some (.int .i64 dep') ∧ (∀ p : Addr, p ≠ ⟨rb, 1, none⟩ → p ≠ ⟨rb, 2, none⟩ → w'.cell? p = w.cell? p) ∧ Below rb w w'

theorem enter_start {rb o : Nat} {dep : Int} {w : World} (ho : w.cell? ⟨rb, 1, none⟩ = some (.int .i64 o)) (hdp : w.cell? ⟨rb, 2, none⟩ = some (.int .i64 dep)) (x y : Value) :
    ((w.setCell ⟨rb, 1, none⟩ x).setCell ⟨rb, 2, none⟩ y).cell? ⟨rb, 1, none⟩ = some x ∧ ((w.setCell ⟨rb, 1, none⟩ x).setCell ⟨rb, 2, none⟩ y).cell? ⟨rb, 2, none⟩ = some y ∧
    (∀ p : Addr, p ≠ ⟨rb, 1, none⟩ → p ≠ ⟨rb, 2, none⟩ → ((w.setCell ⟨rb, 1, none⟩ x).setCell ⟨rb, 2, none⟩ y).cell? p = w.cell? p) ∧ Below rb w ((w.setCell ⟨rb, 1, none⟩ x).setCell ⟨rb, 2, none⟩ y) := by
  refine ⟨?_, ?_, ?_, ?_⟩
  · rw [World.cell?_setCell_other _ _ _ _ (by simp)]; exact World.cell?_setCell_same _ _ _ ho
  · exact World.cell?_setCell_same _ _ _ (u := .int .i64 dep) (by rw [World.cell?_setCell_other _ _ _ _ (by simp)]; exact hdp)
  · intro p h1 h2
    rw [World.cell?_setCell_other _ _ _ _ (fun e => h2 e.symm), World.cell?_setCell_other _ _ _ _ (fun e => h1 e.symm)]
  · exact ((Below.refl rb w).setCell (p := ⟨rb, 1, none⟩) (Nat.le_refl _) x).setCell (p := ⟨rb, 2, none⟩) (Nat.le_refl _) y

set_option maxHeartbeats 400000 in
theorem enter_deep (rb : Nat) (dep en : Int) (tp : TypeId) (ea : Addr) (w : World) (hdp : w.cell? ⟨rb, 2, none⟩ = some (.int .i64 dep)) (hbig : 10000 ≤ dep)
    (hg : w.cell? ⟨0, 0, none⟩ = some (.iface tp (.pointer (some ea)))) :
    Calls Ybad.prog 4 #[.pointer (some ⟨rb, 0, none⟩), .int .u8 en] w fun e w' => e = .returned (.tuple #[.bool false, .iface tp (.pointer (some ea))]) ∧ ∃ n, w' = w.drewN n := by
  go_enter Ybad.func4, Ybad.ntmps4
  go_wp2
  go_quiet (fail)
  go_wp2
  go_ret2
  exact ⟨rfl, _, rfl⟩

theorem enter_no {rb o s : Nat} {dep : Int} {w wp : World} (ho : w.cell? ⟨rb, 1, none⟩ = some (.int .i64 o)) (hdp : w.cell? ⟨rb, 2, none⟩ = some (.int .i64 dep)) (x : Value)
    (h : Peeked rb s ((w.setCell ⟨rb, 1, none⟩ x).setCell ⟨rb, 2, none⟩ (.int .i64 (dep + 1))) wp) : Entered rb s (dep + 1) w wp := by
  obtain ⟨h1, h2, h3, h4⟩ := h
  obtain ⟨s1, s2, s3, s4⟩ := enter_start ho hdp x (.int .i64 (dep + 1))
  exact ⟨h1, by rw [h3 _ (by simp)]; exact s2, fun p p1 p2 => by rw [h3 p p1]; exact s3 p p1 p2, s4.trans h4⟩

theorem enter_yes {rb o s : Nat} {dep : Int} {w wp : World} (ho : w.cell? ⟨rb, 1, none⟩ = some (.int .i64 o)) (hdp : w.cell? ⟨rb, 2, none⟩ = some (.int .i64 dep)) (x : Value)
    (h : Peeked rb s ((w.setCell ⟨rb, 1, none⟩ x).setCell ⟨rb, 2, none⟩ (.int .i64 (dep + 1))) wp) (o' dep' : Int) : Entered rb o' dep' w ((wp.setCell ⟨rb, 1, none⟩ (.int .i64 o')).setCell ⟨rb, 2, none⟩ (.int .i64 dep')) := by
  obtain ⟨e1, e2, e3, e4⟩ := enter_no ho hdp x h
  obtain ⟨s1, s2, s3, s4⟩ := enter_start e1 e2 (.int .i64 o') (.int .i64 dep')
  exact ⟨s1, s2, fun p p1 p2 => by rw [s3 p p1 p2]; exact e3 p p1 p2, e4.trans s4⟩

set_option maxHeartbeats 400000 in
theorem enter_in (rb : Nat) (a : Option Addr) (len cap : Nat) (l : List Int) (o : Nat) (dep en : Int) (w : World)
    (hd : w.cell? ⟨rb, 0, none⟩ = some (.slice a len cap)) (ho : w.cell? ⟨rb, 1, none⟩ = some (.int .i64 o)) (hdp : w.cell? ⟨rb, 2, none⟩ = some (.int .i64 dep))
    (hf : ∀ i, w.frozen? ⟨rb, i, none⟩ = false) (hlen : len ≤ 1048576) (hol : o ≤ len) (hlo : -9223372036854775808 ≤ dep) (hsm : dep < 10000) (hl : l.length = len)
    (hrow : 0 < len → ∃ b off, a = some ⟨b, off, none⟩ ∧ b < rb ∧ ∀ i, i < len → w.cell? ⟨b, off + i, none⟩ = some (.int .u8 (l.getD i 0))) :
    Calls Ybad.prog 4 #[.pointer (some ⟨rb, 0, none⟩), .int .u8 en] w fun e w' =>
      (l.getD (stopAt l (o + 1)) 0 = en → e = .returned (.tuple #[.bool true, .nilIface]) ∧ Entered rb ((stopAt l (o + 1) : Nat) + 1) dep w w') ∧
      (l.getD (stopAt l (o + 1)) 0 ≠ en → e = .returned (.tuple #[.bool false, .nilIface]) ∧ Entered rb (stopAt l (o + 1) : Nat) (dep + 1) w w') := by
  have f1 := hf 1
  have f2 := hf 2
  have HR := show Hid (0 < len → ∃ b off, a = some ⟨b, off, none⟩ ∧ b < rb ∧ ∀ i, i < len → w.cell? ⟨b, off + i, none⟩ = some (.int .u8 (l.getD i 0))) from hrow
  have hs2 : stopAt l (o + 1) ≤ len + 1 := by
    by_cases h : o + 1 ≤ len
    · have := stopAt_le l (o + 1) (by omega); omega
    · rw [stopAt_past l (o + 1) (by omega)]; omega
  have HL := show Hid (l.length = len) from hl
  clear hrow hf hl
  go_enter Ybad.func4, Ybad.ntmps4
  go_wp2_with fail
  obtain ⟨s1, s2, s3, s4⟩ := enter_start ho hdp (.int .i64 ((o : Int) + 1)) (.int .i64 (dep + 1))
  refine (peek_any rb a len cap l (o + 1) _ (by rw [s3 _ (by simp) (by simp)]; exact hd) (by rw [s1]; rfl) (by simpa using f1) (by omega) (by omega) HL.out (fun hp => ?_)).mono ?_
  · obtain ⟨b, off, ha, hb, hcs⟩ := HR.out hp
    exact ⟨b, off, ha, hb, fun i hi => by rw [s3 _ (fun e => by have := congrArg Addr.block e; simp at this; omega) (fun e => by have := congrArg Addr.block e; simp at this; omega)]; exact hcs i hi⟩
  rintro e wp ⟨rfl, hP⟩
  have HP := show Hid (Peeked rb (stopAt l (o + 1)) ((w.setCell ⟨rb, 1, none⟩ (.int .i64 ((o : Int) + 1))).setCell ⟨rb, 2, none⟩ (.int .i64 (dep + 1))) wp) from hP
  have c1 := hP.1
  have c2 : wp.cell? ⟨rb, 2, none⟩ = some (.int .i64 (dep + 1)) := by rw [hP.2.2.1 _ (by simp)]; exact s2
  have g1 : wp.frozen? ⟨rb, 1, none⟩ = false := by rw [hP.2.1]; simpa using f1
  have g2 : wp.frozen? ⟨rb, 2, none⟩ = false := by rw [hP.2.1]; simpa using f2
  clear hP s1 s2 s3 s4
  generalize hg : l.getD (stopAt l (o + 1)) 0 = g at *
  have HG := show Hid (l.getD (stopAt l (o + 1)) 0 = g) from hg
  clear hg
  generalize hst : stopAt l (o + 1) = s at *
  have HS := show Hid (stopAt l (o + 1) = s) from hst
  clear hst
  by_cases hge : g = en
  · subst hge
    go_wp2
    go_ret2
    exact ⟨fun _ => ⟨rfl, by rw [HS.out]; exact enter_yes ho hdp _ HP.out _ _⟩, fun h => absurd (by rw [HS.out]; exact HG.out) h⟩
  · have hne : (g == en) = false := beq_eq_false_iff_ne.2 hge
    go_wp2
    go_ret2
    exact ⟨fun h => absurd (by rw [← h, HS.out]; exact HG.out.symm) hge, fun _ => ⟨rfl, by rw [HS.out]; exact enter_no ho hdp _ HP.out⟩⟩
end Go.Proofs.YbulkdxvwDoor
