import Derived.Test.YbulkdxvwDoorRows
import Derived.Test.YbulkdxvwDoorPlain
import Derived.WalkKit
import Derived.WalkSpells
import Derived.WalkLawsBesides
import Derived.Deep.QuietTactic
import Derived.BigQuiet
import Derived.Deep.LoopGhost
namespace Go.Proofs.YbulkdxvwDoor
open Go.RowKit

set_option maxHeartbeats 400000 in
theorem ws_any (c : Int) (w : World) :
    Calls Ybad.prog 6 #[.int .u8 c] w fun e w' => e = .returned (.bool (isWs c)) ∧ w' = w := by
  by_cases h1 : c = 32
  · subst h1
    go_enter Ybad.func6, Ybad.ntmps6
    go_wp2
    go_ret
    exact ⟨rfl, rfl⟩
  by_cases h2 : c = 9
  · subst h2
    go_enter Ybad.func6, Ybad.ntmps6
    go_wp2
    go_ret
    exact ⟨rfl, rfl⟩
  by_cases h3 : c = 10
  · subst h3
    go_enter Ybad.func6, Ybad.ntmps6
    go_wp2
    go_ret
    exact ⟨rfl, rfl⟩
  by_cases h4 : c = 13
  · subst h4
    go_enter Ybad.func6, Ybad.ntmps6
    go_wp2
    go_ret
    exact ⟨rfl, rfl⟩
  have g1 : (c == 32) = false := beq_eq_false_iff_ne.2 h1
  have g2 : (c == 9) = false := beq_eq_false_iff_ne.2 h2
  have g3 : (c == 10) = false := beq_eq_false_iff_ne.2 h3
  have g4 : (c == 13) = false := beq_eq_false_iff_ne.2 h4
  have e : isWs c = false := by unfold isWs; rw [g1, g2, g3, g4]; rfl
  rw [e]
  clear h1 h2 h3 h4 e
  go_enter Ybad.func6, Ybad.ntmps6
  go_wp2
  go_ret
  exact ⟨rfl, rfl⟩

theorem ret_u8 {a b : Int} (h : a = b) : Ending.returned (.int .u8 a) = .returned (.int .u8 b) := by rw [h]

/-- 'peek' on a reader at block 'rb'. -/
def Peeked (rb : Nat) (o' : Nat) (w w' : World) : Prop :=
  w'.cell? ⟨rb, 1, none⟩ = some (.int .i64 o') ∧ (∀ p : Addr, w'.frozen? p = w.frozen? p) ∧ (∀ p : Addr, p ≠ ⟨rb, 1, none⟩ → w'.cell? p = w.cell? p) ∧ Below rb w w'

theorem Peeked.drewN {rb o : Nat} {w wr : World} (h : Peeked rb o w wr) (n : Nat) : Peeked rb o w (wr.drewN n) :=
  ⟨h.1, h.2.1, h.2.2.1, below_drewN h.2.2.2 n⟩
theorem Peeked.step {rb o : Nat} {w wr : World} (h : Peeked rb o w wr) (n : Nat) : Peeked rb (o + 1) w ((wr.drewN n).setCell ⟨rb, 1, none⟩ (.int .i64 ((o : Int) + 1))) := by
  obtain ⟨h1, h2, h3, h4⟩ := h
  refine ⟨?_, ?_, ?_, ?_⟩
  · exact World.cell?_setCell_same (wr.drewN n) _ _ (u := .int .i64 o) h1
  · intro p; rw [World.frozen?_setCell]; exact h2 p
  · intro p hp
    exact (World.cell?_setCell_other (wr.drewN n) _ _ _ (fun e => hp e.symm)).trans (h3 p hp)
  · exact (below_drewN h4 n).setCell (Nat.le_refl _) _

set_option maxHeartbeats 400000 in
theorem peek_any (rb : Nat) (a : Option Addr) (len cap : Nat) (l : List Int) (o : Nat) (w : World)
    (hd : w.cell? ⟨rb, 0, none⟩ = some (.slice a len cap)) (ho : w.cell? ⟨rb, 1, none⟩ = some (.int .i64 o)) (hf : w.frozen? ⟨rb, 1, none⟩ = false)
    (hlen : len ≤ 9223372036854775807) (hol : o ≤ 9223372036854775807) (hl : l.length = len)
    (hrow : 0 < len → ∃ b off, a = some ⟨b, off, none⟩ ∧ b < rb ∧ ∀ i, i < len → w.cell? ⟨b, off + i, none⟩ = some (.int .u8 (l.getD i 0))) :
    Calls Ybad.prog 7 #[.pointer (some ⟨rb, 0, none⟩)] w fun e w' => e = .returned (.int .u8 (l.getD (stopAt l o) 0)) ∧ Peeked rb (stopAt l o) w w' := by
  go_enter Ybad.func7, Ybad.ntmps7
  go_wp2
  go_loopg [] (len - o) (fun k wr => ∃ o' : Nat, k = len - o' ∧ o' ≤ 9223372036854775807 ∧ stopAt l o' = stopAt l o ∧ Peeked rb o' w wr)
  case atStart => exact ⟨o, rfl, hol, rfl, ho, fun _ => rfl, fun _ _ => rfl, Below.refl _ _⟩
  case round =>
    obtain ⟨o', hk, ho', hst, hP⟩ := hrel
    have HST := show Hid (stopAt l o' = stopAt l o) from hst
    have HK := show Hid (gk = len - o') from hk
    have HP := show Hid (Peeked rb o' w wr) from hP
    obtain ⟨c1, f0, ce, hbel⟩ := hP
    have f1 : wr.frozen? ⟨rb, 1, none⟩ = false := by rw [f0]; exact hf
    clear f0
    have c0 : wr.cell? ⟨rb, 0, none⟩ = some (.slice a len cap) := by rw [ce _ (by simp)]; exact hd
    clear hst hk ce hd ho
    by_cases hlt : o' < len
    · obtain ⟨b, off, rfl, hb, hcs⟩ := hrow (by omega)
      have hcx : wr.cell? ⟨b, off + o', none⟩ = some (.int .u8 (l.getD o' 0)) := by rw [hbel.cell (by exact hb)]; exact hcs o' hlt
      clear hcs hrow
      generalize hc : l.getD o' 0 = c at *
      have HC := show Hid (l.getD o' 0 = c) from hc
      clear hc
      cases hw : isWs c
      · obtain ⟨g1, g2, g3, g4⟩ := isWs_no hw
        have HW := show Hid (isWs c = false) from hw
        clear hw
        go_wp2
        go_quiet (fail)
        go_wp2
        go_quiet (fail)
        go_wp2
        go_ret
        exact ⟨ret_u8 (by rw [← HST.out, stopAt_no l o' (by omega) (by rw [HC.out]; exact HW.out)]; exact HC.out.symm), by rw [← HST.out, stopAt_no l o' (by omega) (by rw [HC.out]; exact HW.out)]; exact HP.out.drewN _⟩
      · have hq := isWs_yes hw
        have HW := show Hid (isWs c = true) from hw
        clear hw
        rcases hq with rfl | rfl | rfl | rfl
        all_goals
          go_wp2
          go_quiet (fail)
          go_wp2
          go_quiet (fail)
          go_wp2
          go_roundg (len - (o' + 1))
          case measure => have := HK.out; omega
          case rel => exact ⟨o' + 1, rfl, by omega, by rw [← HST.out, stopAt_ws l o' (by omega) (by rw [HC.out]; exact HW.out)], HP.out.step _⟩
    · go_wp2
      go_quiet (fail)
      go_wp2
      go_ret
      exact ⟨ret_u8 (by rw [← HST.out, stopAt_past l o' (by omega)]; simp [List.getD, show l.length ≤ o' by omega]), by rw [← HST.out, stopAt_past l o' (by omega)]; exact HP.out.drewN _⟩
end Go.Proofs.YbulkdxvwDoor
