/-
  The walk of the law S6230A: there is room for the copies.
-/
import Derived.Test.YbulkdxzqBase
namespace Go.Proofs.Ybulkdxzq
open Go.RowKit

theorem after_room {w W V : World} {ka da fa kA dA : Option Addr} {nk kc nd dc fl : Nat} {lk ld lf : List Int} {off x y : Int} {f cb tb rb : Nat} {k d : Value}
    (h : Start w W ka da fa kA dA (some ⟨f, 0, none⟩) nk kc nd dc fl lk ld lf off x y f cb tb rb) (hfc : f < cb) (hE : Hid ((ka = none → kc = 0) ∧ (da = none → dc = 0)))
    (ck : Cut ka nk kc f 0 k) (cd : Cut da nd dc f nk d)
    (g1 : V.rowIs rb 34 6 (recF (.int .i64 off) (.int .u64 x) (.int .i64 y) (.pointer none) k d)) (g2 : Whole V f (splice (splice lf 0 lk) nk ld)) (g3 : OnlyIn [f, rb, cb] W V)
    (g4 : FreeAt V cb f (nk + nd) (fl - (nk + nd))) :
    ∃ a' k' d', k = .slice k' nk nk ∧ d = .slice d' nd nd ∧ After w V ka da fa kA dA k' d' nk nd fl lk ld lf (lk ++ (ld ++ lf.drop (nk + nd))) off x y f tb rb ∧
      V.rowIs cb 26 1 (fun _ => .slice a' (fl - (nk + nd)) (fl - (nk + nd))) ∧ (0 < fl - (nk + nd) → a' = some ⟨f, nk + nd, none⟩) := by
  have q1 := h.o1
  have q2 := h.o2
  have q3 := h.o3
  have q4 := h.o4
  obtain ⟨a', h1, h2⟩ := g4
  obtain ⟨k', d', e1, e2, ha⟩ := after h hE (S := [f, rb, cb]) (fun j hj => by simp at hj; omega) (by omega) ck cd g1 g2 g3
  exact ⟨a', k', d', e1, e2, ha, h2, h1⟩

theorem After.restR {w V : World} {ka da fa kA dA k d : Option Addr} {nk nd fl : Nat} {lk ld lf l : List Int} {off x y : Int} {g tb rb : Nat} (h : After w V ka da fa kA dA k d nk nd fl lk ld lf (lk ++ (ld ++ l)) off x y g tb rb) : RowAt V (some ⟨g, nk + nd, none⟩) l.length l := by
  have n1 := h.key.1
  have n2 := h.data.1
  refine ⟨rfl, (fun e => nomatch e), fun hp => ⟨g, nk + nd, rfl, h.row.row.lt, fun i hi => ?_⟩⟩
  rw [h.row.row.cell (i := nk + nd + i) (by simp; omega)]
  simp only [List.getD]
  rw [List.getElem?_append_right (by omega), List.getElem?_append_right (by omega), show nk + nd + i - lk.length - ld.length = i by omega]

theorem RowAt.of_zero {V : World} (x : Addr) : RowAt V (some x) 0 [] := ⟨rfl, (fun e => nomatch e), fun h => absurd h (Nat.lt_irrefl _)⟩

/-- fc[:len(key)] against keyC. -/
theorem head_heap {w V : World} {ka da fa kA dA k d : Option Addr} {nk nd fl : Nat} {lk ld lf l : List Int} {off x y : Int} {g tb rb : Nat} (h : After w V ka da fa kA dA k d nk nd fl lk ld lf (lk ++ (ld ++ l)) off x y g tb rb) :
    Hid (∀ (z : Addr) (c : Nat) (W : World), W.heap = V.heap → (0 < nk → z = ⟨g, 0, none⟩) → Calls Yba.prog 8 #[.slice (some z) nk c, .slice kA nk nk] W fun e w' => e = .returned (.bool true) ∧ w' = W) := fun z c W e hz => by
  refine equal_any (some z) kA nk c nk lk W ?_ (h.keyC.heap e)
  rcases Nat.eq_zero_or_pos nk with h0 | hp
  · subst h0
    obtain rfl := List.length_eq_zero_iff.1 h.key.1
    exact RowAt.of_zero z
  · rw [hz hp, ← h.ka' hp]
    exact h.keyR.heap e

/-- fc[len(key):n] against dataC. -/
theorem tail_heap {w V : World} {ka da fa kA dA k d : Option Addr} {nk nd fl : Nat} {lk ld lf l : List Int} {off x y : Int} {g tb rb : Nat} (h : After w V ka da fa kA dA k d nk nd fl lk ld lf (lk ++ (ld ++ l)) off x y g tb rb) :
    Hid (∀ (z : Addr) (c : Nat) (W : World), W.heap = V.heap → (0 < nd → z = ⟨g, nk, none⟩) → Calls Yba.prog 8 #[.slice (some z) nd c, .slice dA nd nd] W fun e w' => e = .returned (.bool true) ∧ w' = W) := fun z c W e hz => by
  refine equal_any (some z) dA nd c nd ld W ?_ (h.dataC.heap e)
  rcases Nat.eq_zero_or_pos nd with h0 | hp
  · subst h0
    obtain rfl := List.length_eq_zero_iff.1 h.data.1
    exact RowAt.of_zero z
  · rw [hz hp, ← h.da' hp]
    exact h.dataR.heap e

/-- fc[n:] against free[n:]. -/
theorem rest_heap {w V : World} {ka da fa kA dA k d : Option Addr} {nk nd fl : Nat} {lk ld lf : List Int} {off x y : Int} {g tb rb : Nat} (h : After w V ka da fa kA dA k d nk nd fl lk ld lf (lk ++ (ld ++ lf.drop (nk + nd))) off x y g tb rb) {b o : Nat} (hfa : fa = some ⟨b, o, none⟩) (hle : nk + nd ≤ fl) (hfp : 0 < fl) :
    Hid (∀ (z z' : Addr) (c c' : Nat) (W : World), W.heap = V.heap → (0 < fl - (nk + nd) → z = ⟨g, nk + nd, none⟩ ∧ z' = ⟨b, o + (nk + nd), none⟩) →
      Calls Yba.prog 8 #[.slice (some z) (fl - (nk + nd)) c, .slice (some z') (fl - (nk + nd)) c'] W fun e w' => e = .returned (.bool true) ∧ w' = W) := fun z z' c c' W e hz => by
  subst hfa
  have hlen : (lf.drop (nk + nd)).length = fl - (nk + nd) := by rw [List.length_drop, h.free.1]
  refine equal_any (some z) (some z') (fl - (nk + nd)) c c' (lf.drop (nk + nd)) W ?_ ?_
  · rcases Nat.eq_zero_or_pos (fl - (nk + nd)) with h0 | hp
    · rw [h0] at hlen ⊢
      rw [List.length_eq_zero_iff.1 hlen]
      exact RowAt.of_zero z
    · rw [(hz hp).1]
      have := h.restR.heap e
      rwa [hlen] at this
  · refine ⟨hlen, (fun e => nomatch e), fun hp => ?_⟩
    obtain ⟨b', o', e', hb, hc⟩ := (h.free.heap e).2.2 hfp
    cases e'
    refine ⟨b, o + (nk + nd), by rw [(hz hp).2], hb, fun i hi => ?_⟩
    have := hc (nk + nd + i) (by omega)
    rw [Nat.add_assoc, this]
    simp [List.getD]

/-- Two slices without elements. -/
theorem zero_heap (V : World) : Hid (∀ (z z' : Option Addr) (c c' : Nat) (W : World), W.heap = V.heap → Calls Yba.prog 8 #[.slice z 0 c, .slice z' 0 c'] W fun e w' => e = .returned (.bool true) ∧ w' = W) := fun z z' c c' W _ =>
  equal_any z z' 0 c c' [] W ⟨rfl, fun _ => rfl, fun h => absurd h (Nat.lt_irrefl _)⟩ ⟨rfl, fun _ => rfl, fun h => absurd h (Nat.lt_irrefl _)⟩

theorem room_k {w W : World} {ka da fa kA dA fA : Option Addr} {nk kc nd dc fl : Nat} {lk ld lf : List Int} {off x y : Int} {f cb tb rb : Nat} (h : Start w W ka da fa kA dA fA nk kc nd dc fl lk ld lf off x y f cb tb rb) :
    0 < nk → ∀ x, ka = some x → x.block ≠ f ∧ x.block ≠ rb := fun hp x hx => by
  have q0 := h.base
  have q1 := h.o1
  have q2 := h.o2
  have q3 := h.o3
  have q4 := h.o4
  have := h.keyL hp x hx
  omega

theorem room_d {w W : World} {ka da fa kA dA fA : Option Addr} {nk kc nd dc fl : Nat} {lk ld lf : List Int} {off x y : Int} {f cb tb rb : Nat} (h : Start w W ka da fa kA dA fA nk kc nd dc fl lk ld lf off x y f cb tb rb) :
    0 < nd → ∀ x, da = some x → x.block ≠ f ∧ x.block ≠ rb := fun hp x hx => by
  have q0 := h.base
  have q1 := h.o1
  have q2 := h.o2
  have q3 := h.o3
  have q4 := h.o4
  have := h.dataL hp x hx
  omega

end Go.Proofs.Ybulkdxzq
