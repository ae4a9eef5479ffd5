/-
  The row of 'gofathom.LawS6226AWhole': the frame after the kit's skeleton for laws; the slice of bools opened by the kit's 'open_slice1'; the walk is YbulkdxxmLawA's.
-/
import Derived.Test.YbulkdxxmRows
import Derived.Test.YbulkdxxmLawA
import Derived.WalkKit
import Derived.ProofKit
import Derived.OpenShut
import Derived.ChangeOld
import Derived.ChangeArms
import Derived.Below
import Derived.Deep.Slices
namespace Go.Proofs.Ybulkdxxm.lawS6226AWhole
open Go.ChangeShapes Go.WideShapes Go.ChangeAt Go.RowKit
set_option linter.unusedVariables false

theorem own : ownKnob Yba.prog.godebug = none := by kernel_rfl
theorem laidOut : laidOutB Yba.prog = true := by kernel_rfl
theorem cells4 : Yba.prog.cellsOf 4 = 1 := by kernel_rfl

/-- What a slice of bools that came in gives the walk. -/
theorem flags_of {H : Type} {enc : TypeId × Value → H} {W : World} {a : Option Addr} {len cap : Nat} {d : DataW H} {ps : List MemPlace} (h : DataW.Trod enc Yba.prog W 0 (fun _ => true) true 22 (.slice a len cap) d ps) :
    ∃ ws : List Bool, ws.length = len ∧ Flags W a ws := by
  obtain ⟨fuel, hf⟩ := h
  rcases Deep.open_slice1 Yba.underlying22 cells4 hf with ⟨hcs, _⟩ | ⟨x, l, c, m, n, V, D, Pl, hcs, _, hl, hm, hmm, _, hcell⟩
  · simp [Value.cells] at hcs
    obtain ⟨rfl, rfl, rfl⟩ := hcs
    exact ⟨[], rfl, fun hp => by simp at hp⟩
  · simp [Value.cells] at hcs
    obtain ⟨rfl, rfl, rfl⟩ := hcs
    simp only [if_true] at hmm
    subst hmm
    have hb : ∀ i, i < len → ∃ b : Bool, W.cell? (x.add i) = some (.bool b) := fun i hi => by
      obtain ⟨h1, h2⟩ := hcell i (by omega)
      obtain ⟨b, hv, _⟩ := DataW.trod_bool Yba.underlying4 h2
      simp at hv
      exact ⟨b, by rw [h1, hv]⟩
    obtain ⟨f, hfb⟩ := Deep.choose_lt hb
    refine ⟨(List.range len).map f, by simp, fun hp => ?_⟩
    simp at hp
    obtain ⟨bk, off, spot⟩ := x
    have hspot : spot = none := by simpa [Addr.add] using World.cell?_spot (hfb 0 (by omega))
    subst hspot
    refine ⟨bk, off, rfl, ?_, fun i hi => ?_⟩
    · have := block_lt_of_cell (hfb 0 (by omega))
      simpa [Addr.add] using this
    · simp at hi
      have := hfb i hi
      rw [add_plain] at this
      rw [this]
      simp [List.getD, hi]

set_option maxRecDepth 100000 in
theorem walk (a0 : Option Addr) (cap0 : Nat) (ws : List Bool) (a1 : Int) (w : World) (hF : Flags w a0 ws) (w1 : (Lit.int .u8 a1).wf = true) :
    Calls Yba.prog 3 #[.slice a0 ws.length cap0, .int .u8 a1] w fun e w' => e = .returned (.bool true) ∧ Below w.heap.size w w' := by
  by_cases hbig : 1048576 < ws.length
  · have hgt : (1048576 : Int) < (ws.length : Int) := by omega
    go_enter Yba.func3, Yba.ntmps3
    go_wp2
    go_ret
    exact ⟨rfl, Below.refl _ _⟩
  exact law_core a0 cap0 ws a1 w hF (by omega) w1

set_option maxRecDepth 100000 in
theorem lifted (os : Os) (started : os.Started) (H : Type) (enc : TypeId × Value → H) :
    ReturnsInHanded {} Yba.checked os 3 .any (Rows.lawS6226AWholeSpec.pre6 enc Yba.prog Yba.f3 Rows.lawS6226AWholeRow.domain false) (Rows.lawS6226AWholeSpec.post enc Yba.prog Yba.f3 false true false false) := by
  refine returnsInHanded_of_change (C := Yba.checked) own started (by kernel_rfl) Yba.func3
    (ChangeSpec.witness6 (enc := enc) (C := Yba.checked) false ⟨#[], #[.slice none 0 0, .int .u8 0], []⟩ 8 (by kernel_rfl) (by kernel_rfl) (by kernel_rfl) (by kernel_rfl)) ?_
  intro W base args ds gs before hval0 hW hcnd _
  have hval : ∀ (j : Nat) t v, Yba.f3.params[j]? = some t → args[j]? = some v → Value.okWide Yba.prog W .any base t v := hval0
  have hW' := hW
  obtain ⟨p, q, hA0, hV, rfl, hfz, hnd⟩ := hW
  have hA : DataW.TrodAll enc Yba.prog W 0 (fun _ => true) true Yba.f3.params.toList args.toList ds p := hA0
  rw [Yba.params3] at hA hval
  obtain ⟨v0, vs0, d0, ds0, p0, q0, hargs, rfl, rfl, h0, r0⟩ := trodAll_cons hA
  obtain ⟨v1, vs1, d1, ds1, p1, q1, rfl, rfl, rfl, h1, r1⟩ := trodAll_cons r0
  obtain ⟨rfl, rfl, rfl⟩ := trodAll_nil r1
  obtain rfl : args = #[v0, v1] := by cases args; simp_all
  obtain ⟨rfl, rfl⟩ := trodVars_none hV
  obtain ⟨a0, len0, cap0, rfl⟩ := okWide_slice Yba.underlying22 (hval 0 22 v0 rfl rfl)
  have k0 := h0
  have lt0 : ∀ x ∈ p0, x.block < W.heap.size := by obtain ⟨m, hm⟩ := k0; exact DataW.trod_lt m _ _ _ hm
  obtain ⟨ws, rfl, hF⟩ := flags_of h0
  obtain ⟨a1, rfl, rfl, rfl, w1⟩ := open_int Yba.underlying5 (hval 1 5 v1 rfl rfl) h1
  clear hA0 hval0
  refine (walk a0 cap0 ws a1 W hF w1).mono fun e W' ⟨he, bel⟩ => ?_
  subst he
  exact ⟨_, rfl, _, _, _, [], _, [], hW', trodAll_mk1 (shut_bool Yba.underlying4 _), (trodAll_cons_mk (Below.trod laidOut (by kernel_rfl) (of_decide_eq_true (by kernel_rfl)) k0 bel lt0) (trodAll_cons_mk (shut_int Yba.underlying5 w1) trodAll_mk0)), rfl, bel.frame _, fun h => by cases h⟩

/-- ████ THE STATEMENT ████ -/
theorem proved : Rows.LawS6226AWholeSaid :=
  OpenClaim.holds_of_wide 3 Yba.f3 rfl rfl rfl rfl rfl rfl rfl ⟨rfl, rfl, rfl, rfl, rfl⟩ rfl rfl rfl rfl rfl (by kernel_rfl) Yba.func3 (by kernel_rfl)
    (of_decide_eq_true (by kernel_rfl)) (by unfold Func.isWrapper; first | (rw [if_pos (by decide +kernel)]; kernel_rfl) | (rw [if_neg (by decide +kernel)]; exact ⟨rfl, rfl⟩))
    (fun os started H enc _ => lifted os started H enc)
end Go.Proofs.Ybulkdxxm.lawS6226AWhole
