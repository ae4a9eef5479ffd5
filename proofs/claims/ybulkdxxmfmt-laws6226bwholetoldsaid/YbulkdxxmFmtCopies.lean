/-
  bytes.Clone, bytes.Equal.
-/
import Derived.Test.YbulkdxxmFmtExt2
import Derived.ArgAppend
import Derived.Laws.BytesArg
import Derived.OpenShut
namespace Go.Proofs.YbulkdxxmFmt
open Go.RowKit

/-- What 'string(b)' gives. -/
theorem conv_any {b n : Nat} {l : List Int} {w : World} (hl : l.length = n) (hc : ∀ i, i < n → w.cell? ⟨b, i, none⟩ = some (.int .u8 (l.getD i 0))) (cap : Nat) : (convert 22 9 (.slice (some ⟨b, 0, none⟩) n cap)).run Ybaf.prog w = .ok (.string (strOfNums l)) w :=
  run_convert_bytes_arg w 22 5 Ybaf.underlying22 Ybaf.underlying5 b 0 n cap l hl (by simpa using hc) 9 Ybaf.underlying9

set_option maxRecDepth 100000 in
set_option maxHeartbeats 400000 in
theorem equal_any (b1 b2 n c1 c2 : Nat) (l : List Int) (w : World) (hl : l.length = n) (h1 : ∀ i, i < n → w.cell? ⟨b1, i, none⟩ = some (.int .u8 (l.getD i 0))) (h2 : ∀ i, i < n → w.cell? ⟨b2, i, none⟩ = some (.int .u8 (l.getD i 0))) :
    Calls Ybaf.prog 9 #[.slice (some ⟨b1, 0, none⟩) n c1, .slice (some ⟨b2, 0, none⟩) n c2] w fun e w' => e = .returned (.bool true) ∧ w' = w := by
  have g1 := conv_any hl h1 c1
  have g2 := conv_any hl h2 c2
  clear h1 h2
  go_enter Ybaf.func9, Ybaf.ntmps9
  go_wp2
  go_ret
  exact ⟨by simp, rfl⟩

set_option maxRecDepth 100000 in
set_option maxHeartbeats 400000 in
theorem clone_any (b n : Nat) (l : List Int) (w : World) (hl : l.length = n) (hn : n ≤ 2000000) (hn0 : 0 < n) (h : ∀ i, i < n → w.cell? ⟨b, i, none⟩ = some (.int .u8 (l.getD i 0))) :
    Calls Ybaf.prog 4 #[.slice (some ⟨b, 0, none⟩) n n] w fun e w' => ∃ g cap, e = .returned (.slice (some ⟨g, 0, none⟩) n cap) ∧ n ≤ cap ∧ cap ≤ 9223372036854775807 ∧ w.heap.size ≤ g ∧ (∀ i, i < n → w'.cell? ⟨g, i, none⟩ = some (.int .u8 (l.getD i 0))) ∧ Below w.heap.size w w' := by
  have H := hid h
  clear h
  have hnil := fun w => Lib.run_eql_slice_nil (P := Ybaf.prog) w 22 5 (some ⟨b, 0, none⟩) n n 0 0 Ybaf.underlying22
  obtain ⟨i0, hi, hzz⟩ := Option.map_eq_some_iff.1 Ybaf.info5
  simp only [Prod.mk.injEq] at hzz
  obtain ⟨hz0, hz1, hz2⟩ := hzz
  go_enter Ybaf.func4, Ybaf.ntmps4
  have hb : b < w.heap.size := World.block_lt_of_cell? _ _ (H.out 0 hn0)
  go_wp2_with (at_builtin; refine wpList_append_grows _ rfl (.tmp 5) (.tmp 6) 22 rfl 5 i0 (.int .u8 0) 1 1 Ybaf.underlying22 hi hz0 hz1 hz2 rfl (by decide) (some ⟨w.heap.size, 0, none⟩) 0 0 [] rfl (fun h => nomatch h) rfl (fun _ _ j u hj => by simp at hj) ⟨b, 0, none⟩ n n (l.map (Value.int .u8)) rfl (by simp [hl]) ?_ ?_ ?_ ?_ ?_ ?_)
  · intro j u hj
    have hjl : j < l.length := by
      have := (List.getElem?_eq_some_iff.1 hj).1
      simpa using this
    have hjv : u = .int .u8 (l.getD j 0) := by
      simp [hjl] at hj
      simp [List.getD, hjl, hj]
    rw [WideShapes.add_plain, World.cell?_alloc_lt _ _ _ (by exact hb), hjv, Nat.zero_add]
    exact H.out j (by omega)
  · intro u hu
    obtain ⟨y, _, rfl⟩ := List.mem_map.1 hu
    rfl
  · omega
  · unfold maxLen; omega
  · omega
  · intro v' w1 hown hgrow
    obtain ⟨_, ⟨_, h0⟩ | ⟨g, cap, cur, rfl, hg, hrow, hc1, hc2, hc3, hc4⟩⟩ := hown
    · omega
    have hbl : Below w.heap.size w w1 := ((Below.refl _ w).alloc (Nat.le_refl _) (.cells #[] 5)).grown hgrow (by simp) (fun _ h => nomatch h)
    have hcell : ∀ i, i < n → w1.cell? ⟨g, i, none⟩ = some (.int .u8 (l.getD i 0)) := by
      intro i hi
      show (match w1.heap[g]? with | some (Obj.cells c _ _) => c[i]? | _ => none) = _
      rw [hrow]
      show cur[i]? = _
      have e : cur.toList[i]? = (l.map (Value.int .u8))[i]? := by rw [← hc4, List.getElem?_take_of_lt (by omega)]
      rw [← Array.getElem?_toList, e]
      simp [show i < l.length by omega]
    have h9 : (w.alloc (Obj.cells #[] 5)).heap.size = w.heap.size + 1 := by simp
    have hg2 : w.heap.size ≤ g := by omega
    have HR := hid (p := n ≤ cap ∧ cap ≤ 9223372036854775807 ∧ w.heap.size ≤ g ∧ (∀ i, i < n → w1.cell? ⟨g, i, none⟩ = some (.int .u8 (l.getD i 0))) ∧ Below w.heap.size w w1) ⟨by omega, by unfold maxLen at hc2; omega, hg2, hcell, hbl⟩
    clear hcell hbl hrow hc1 hc2 hc3 hc4 hgrow hg hg2 h9
    go_wp2
    go_ret
    exact ⟨g, cap, rfl, HR.out⟩
end Go.Proofs.YbulkdxxmFmt
