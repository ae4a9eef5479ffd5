/-
  The small callees of the law S6230A: zzs6230acopy, bytes.Equal, zzs6230aallzero.
-/
import Derived.Test.YbulkdxzqRows
import Derived.WalkKit
import Derived.WalkSpells
import Derived.WalkLawsBesides
import Derived.Deep.QuietTactic
import Derived.BigQuiet
import Derived.Deep.OwnRows
import Derived.Laws.CopyRow
import Derived.Laws.IdiomCopy
import Derived.Laws.CopyOwn
import Derived.Laws.BytesArg
import Derived.OpenShut
namespace Go.Proofs.Ybulkdxzq
open Go.RowKit

theorem Yba.info5 : (Yba.prog.info? 5).map (fun i => (i.zero, i.size, i.bytes)) = some (some (.int .u8 0), 1, 1) := by kernel_rfl
theorem Yba.size5 : (Yba.prog.info? 5).map (·.size) = some 1 := by kernel_rfl

/-- A row of bytes as a walk wants it: the bytes l lie behind the address. -/
def RowAt (w : World) (a : Option Addr) (len : Nat) (l : List Int) : Prop :=
  l.length = len ∧ (a = none → len = 0) ∧ (0 < len → ∃ b off, a = some ⟨b, off, none⟩ ∧ b < w.heap.size ∧ ∀ i, i < len → w.cell? ⟨b, off + i, none⟩ = some (.int .u8 (l.getD i 0)))

/-- A slice that the call itself has made: nil, or the whole of block g. -/
def OwnAt (w : World) (g : Nat) (a : Option Addr) (len : Nat) (l : List Int) : Prop :=
  l.length = len ∧ (a = none → len = 0) ∧ (∀ x, a = some x → x = ⟨g, 0, none⟩ ∧ w.rowIs g 5 len (fun i => .int .u8 (l.getD i 0)))

theorem made_list (len : Nat) : (madeCells #[Value.int .u8 0] len).toList = List.replicate len (Value.int .u8 0) := by
  apply List.ext_getElem?
  intro i
  by_cases h : i < len
  · simp [madeCells, h, Nat.mod_one]
  · simp [madeCells, h]

/-- What 'copy(c, b)' does behind 'make'. -/
theorem copy_run {a : Option Addr} {len cap : Nat} {l : List Int} {w : World} (h : RowAt w a len l) :
    ∃ wc : World, (∀ ty, (Builtin.copy_ #[22, 22] ty #[.slice (some ⟨w.heap.size, 0, none⟩) len len, .slice a len cap]).run Yba.prog (w.alloc (.cells (madeCells #[.int .u8 0] len) 5)) = .ok (goInt len) wc) ∧
      wc.rowIs w.heap.size 5 len (fun i => .int .u8 (l.getD i 0)) ∧ Below w.heap.size w wc ∧ wc.heap.size = w.heap.size + 1 := by
  obtain ⟨hl, _, hr⟩ := h
  have hb0 : Below w.heap.size w (w.alloc (.cells (madeCells #[.int .u8 0] len) 5)) := (Below.refl _ _).alloc (Nat.le_refl _) _
  have hg := Go.Deep.blk_alloc_new w (.cells (madeCells #[.int .u8 0] len) 5)
  rcases Nat.eq_zero_or_pos len with h0 | hp
  · subst h0
    exact ⟨_, fun ty => run_copy_none _ 22 22 ty 5 _ _ 0 0 0 cap Yba.underlying22 Yba.size5 (by simp), ⟨_, hg, by simp [madeCells], fun i hi => by omega⟩, hb0, by simp⟩
  · obtain ⟨b, off, rfl, hb, hc⟩ := hr hp
    have hrun := fun ty => run_copy_row (P := Yba.prog) (w.alloc (.cells (madeCells #[.int .u8 0] len) 5)) 22 22 ty 5 w.heap.size 0 len len ⟨b, off, none⟩ len cap _ 5 (l.map (Value.int .u8)) Yba.underlying22 Yba.size5 hg (by simp [hl])
      (fun j v hj => by
        have hjl : j < l.length := by
          have := (List.getElem?_eq_some_iff.1 hj).1
          simpa using this
        have hjv : v = .int .u8 (l.getD j 0) := by
          simp [hjl] at hj
          simp [List.getD, hjl, hj]
        rw [WideShapes.add_plain, World.cell?_alloc_lt _ _ _ (by simpa using hb), hjv]
        exact hc j (by omega)) (by simp [madeCells, hl]) (fun v hv => by obtain ⟨x, _, rfl⟩ := List.mem_map.1 hv; rfl)
    simp only [List.length_map, hl] at hrun
    refine ⟨_, hrun, ⟨_, setRow_heap _ _ _ _ _ _ hg, by simp [hl, madeCells], fun i hi => ?_⟩, below_setRow hb0 (Nat.le_refl _) _, by simp [World.setRow]⟩
    simp [hl, hi, List.getD, made_list]

set_option maxRecDepth 100000 in
set_option maxHeartbeats 400000 in
theorem copy_any (a : Option Addr) (len cap : Nat) (l : List Int) (w : World) (h : RowAt w a len l) (hsm : len ≤ 1048576) :
    Calls Yba.prog 5 #[.slice a len cap] w fun e w' => ∃ a' : Option Addr, e = .returned (.slice a' len len) ∧ (a' = none ↔ a = none) ∧ OwnAt w' w.heap.size a' len l ∧ Below w.heap.size w w' ∧ (a' ≠ none → w'.heap.size = w.heap.size + 1) := by
  have hmk := run_make_row' (P := Yba.prog) 22 5 (.int .u8 0) 1 Yba.underlying22 Yba.info5 rfl .i64 .i64 len (by omega) (by omega)
  have hnil := fun w => Lib.run_eql_slice_nil (P := Yba.prog) w 22 5 a len cap 0 0 Yba.underlying22
  cases a with
  | none =>
    have h0 := h.2.1 rfl
    have HL := show Hid (l.length = len) from h.1
    subst h0
    go_enter Yba.func5, Yba.ntmps5
    go_wp2
    go_ret
    exact ⟨none, rfl, by simp, ⟨HL.out, fun _ => rfl, fun x hx => nomatch hx⟩, Below.refl _ _, fun h => absurd rfl h⟩
  | some x =>
    obtain ⟨wc, hcp, hrw, hbc, hsz⟩ := copy_run (cap := cap) h
    have HW := show Hid (wc.rowIs w.heap.size 5 len (fun i => .int .u8 (l.getD i 0)) ∧ Below w.heap.size w wc) from ⟨hrw, hbc⟩
    have HL := show Hid (l.length = len) from h.1
    clear hrw hbc h
    go_enter Yba.func5, Yba.ntmps5
    go_wp2
    go_ret
    exact ⟨_, rfl, by simp, ⟨HL.out, (fun h => nomatch h), fun x hx => by cases hx; exact ⟨rfl, HW.out.1⟩⟩, HW.out.2, fun _ => hsz⟩

/-- What 'string(b)' gives. -/
theorem conv_any {a : Option Addr} {len : Nat} {l : List Int} {w : World} (h : RowAt w a len l) (cap : Nat) : (convert 22 9 (.slice a len cap)).run Yba.prog w = .ok (.string (strOfNums l)) w := by
  obtain ⟨hl, hn, hr⟩ := h
  rcases Nat.eq_zero_or_pos len with h0 | hp
  · subst h0
    obtain rfl := List.length_eq_zero_iff.1 hl
    cases a with
    | none => exact run_convert_bytes_nil w 22 5 Yba.underlying22 Yba.underlying5 0 cap 9 Yba.underlying9
    | some x =>
      rw [run_convert_bytes_string w 22 9 5 _ 0 cap Yba.underlying22 Yba.underlying5 Yba.underlying9, run_bytesToString w _ 0 cap [] (by simpa using run_loadCells_list (P := Yba.prog) w x [] (fun j v hj => by simp at hj))]
      rfl
  · obtain ⟨b, off, rfl, _, hc⟩ := hr hp
    exact run_convert_bytes_arg w 22 5 Yba.underlying22 Yba.underlying5 b off len cap l hl hc 9 Yba.underlying9

set_option maxRecDepth 100000 in
set_option maxHeartbeats 400000 in
theorem equal_any (a1 a2 : Option Addr) (len c1 c2 : Nat) (l : List Int) (w : World) (h1 : RowAt w a1 len l) (h2 : RowAt w a2 len l) :
    Calls Yba.prog 8 #[.slice a1 len c1, .slice a2 len c2] w fun e w' => e = .returned (.bool true) ∧ w' = w := by
  have g1 := conv_any h1 c1
  have g2 := conv_any h2 c2
  clear h1 h2
  go_enter Yba.func8, Yba.ntmps8
  go_wp2
  go_ret
  exact ⟨by simp, rfl⟩

set_option maxRecDepth 100000 in
set_option maxHeartbeats 400000 in
theorem allzero_any (a : Option Addr) (len cap : Nat) (w : World) (h : RowAt w a len (List.replicate len 0)) (hsm : len ≤ 9223372036854775807) :
    Calls Yba.prog 9 #[.slice a len cap] w fun e w' => e = .returned (.bool true) ∧ w' = w := by
  have H := show Hid (RowAt w a len (List.replicate len 0)) from h
  clear h
  go_enter Yba.func9, Yba.ntmps9
  go_wp2
  go_loop [3] (fun i => ∃ k : Nat, k ≤ len ∧ i = .int .i64 k) (fun i => len - (intOf i).toNat)
  case atStart => exact ⟨0, Nat.zero_le _, rfl⟩
  case round =>
    obtain ⟨k, hk, rfl⟩ := hrel
    by_cases hlt : k < len
    · obtain ⟨b, off, rfl, _, hc⟩ := H.out.2.2 (by omega)
      have hck := hc k hlt
      have e0 : (List.replicate len (0 : Int)).getD k 0 = 0 := by simp [List.getD, hlt]
      rw [e0] at hck
      clear hc e0
      go_wp2
      go_round
      case rel => exact ⟨k + 1, by omega, by go_num⟩
      case measure => simp [intOf]; omega
    · go_wp2
      go_ret
      exact ⟨rfl, rfl⟩
end Go.Proofs.Ybulkdxzq
