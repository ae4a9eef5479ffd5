/-
  The row of 'uts.LawS6224BWhole': the frame after the kit's skeleton for laws; the float and the array opened by hand; the walk is YbulkdxwkLaw's.
-/
import Derived.Test.YbulkdxwkRows
import Derived.Test.YbulkdxwkLaw
import Derived.WalkKit
import Derived.ProofKit
import Derived.OpenShut
import Derived.ChangeOld
import Derived.Below
import Derived.Laws.Cover2
import Derived.Deep.Slices
namespace Go.Proofs.Ybulkdxwk.lawS6224BWhole
open Go.ChangeShapes Go.WideShapes Go.ChangeAt Go.RowKit
set_option linter.unusedVariables false

theorem own : ownKnob Yba.prog.godebug = none := by kernel_rfl
theorem laidOut : laidOutB Yba.prog = true := by kernel_rfl
theorem cells24 : Yba.prog.cellsOf 24 = 20 := by kernel_rfl

/-- An array by value: its cells. -/
theorem okWide_arr {P : Program} {w : World} {r : Reach} {base : Nat} {t e : TypeId} {n : Nat} {v : Value} (ht : P.underlying t = some (.array n e)) (h : Value.okWide P w r base t v) : ∃ cs, v = .agg cs ∧ cs.size = P.cellsOf t := by
  simp only [Value.okWide, ht] at h
  obtain ⟨cs, h1, h2, _⟩ := h
  exact ⟨cs, h1, h2⟩

/-- Its bytes. -/
theorem bytes_of {H : Type} {enc : TypeId × Value → H} {W : World} {cs : Array Value} {d : DataW H} {ps : List MemPlace} (h : DataW.Trod enc Yba.prog W 0 (fun _ => true) true 24 (.agg cs) d ps) :
    ∀ i, i < 20 → ∃ z : Int, cs[i]? = some (.int .u8 z) ∧ 0 ≤ z ∧ z ≤ 255 := by
  obtain ⟨fuel, hf⟩ := h
  obtain ⟨xs, m, rfl, hx, hlen, hn, hel⟩ := DataW.trod_array Yba.underlying24 hf
  intro i hi
  have he := hel i hi
  rw [Yba.cells5, Nat.mul_one] at he
  rw [List.getElem?_eq_getElem (by omega)] at he
  obtain ⟨z, e1, e2, hw⟩ := DataW.trod_int Yba.underlying5 he
  have hb := bounds_u8 hw
  refine ⟨z, ?_, hb.1, hb.2⟩
  have := congrArg (fun l => l[0]?) e1
  simpa [Value.cells] using this

theorem walk (a0 a2 a3 a5 : Int) (q : Nat) (cs : Array Value) (w : World) (hsz : cs.size = 20) (hcs : ∀ i, i < 20 → ∃ z : Int, cs[i]? = some (.int .u8 z) ∧ 0 ≤ z ∧ z ≤ 255) :
    Calls Yba.prog 3 #[.int .i64 a0, .float .f64 q, .int .i64 a2, .int .u32 a3, .agg cs, .int .i64 a5] w fun e w' => e = .returned (.bool true) ∧ Below w.heap.size w w' := by
  obtain ⟨f, hf⟩ := Deep.choose_lt hcs
  have he : cs = #[.int .u8 (f 0), .int .u8 (f 1), .int .u8 (f 2), .int .u8 (f 3), .int .u8 (f 4), .int .u8 (f 5), .int .u8 (f 6), .int .u8 (f 7), .int .u8 (f 8), .int .u8 (f 9), .int .u8 (f 10), .int .u8 (f 11), .int .u8 (f 12), .int .u8 (f 13), .int .u8 (f 14), .int .u8 (f 15), .int .u8 (f 16), .int .u8 (f 17), .int .u8 (f 18), .int .u8 (f 19)] := by
    apply Array.ext_getElem?
    intro i
    match i with
    | 0 => rw [(hf 0 (by omega)).1]; rfl
    | 1 => rw [(hf 1 (by omega)).1]; rfl
    | 2 => rw [(hf 2 (by omega)).1]; rfl
    | 3 => rw [(hf 3 (by omega)).1]; rfl
    | 4 => rw [(hf 4 (by omega)).1]; rfl
    | 5 => rw [(hf 5 (by omega)).1]; rfl
    | 6 => rw [(hf 6 (by omega)).1]; rfl
    | 7 => rw [(hf 7 (by omega)).1]; rfl
    | 8 => rw [(hf 8 (by omega)).1]; rfl
    | 9 => rw [(hf 9 (by omega)).1]; rfl
    | 10 => rw [(hf 10 (by omega)).1]; rfl
    | 11 => rw [(hf 11 (by omega)).1]; rfl
    | 12 => rw [(hf 12 (by omega)).1]; rfl
    | 13 => rw [(hf 13 (by omega)).1]; rfl
    | 14 => rw [(hf 14 (by omega)).1]; rfl
    | 15 => rw [(hf 15 (by omega)).1]; rfl
    | 16 => rw [(hf 16 (by omega)).1]; rfl
    | 17 => rw [(hf 17 (by omega)).1]; rfl
    | 18 => rw [(hf 18 (by omega)).1]; rfl
    | 19 => rw [(hf 19 (by omega)).1]; rfl
    | n + 20 => rw [Array.getElem?_eq_none (by omega), Array.getElem?_eq_none (by simp)]
  rw [he]
  exact law_core a0 a2 a5 a3 q _ _ w (known a0 a2 a5 a3 q (f 0) (f 1) (f 2) (f 3) (f 4) (f 5) (f 6) (f 7) (f 8) (f 9) (f 10) (f 11) (f 12) (f 13) (f 14) (f 15) (f 16) (f 17) (f 18) (f 19) (hf 16 (by omega)).2 (hf 17 (by omega)).2 (hf 18 (by omega)).2 (hf 19 (by omega)).2)

set_option maxRecDepth 100000 in
theorem lifted (os : Os) (started : os.Started) (H : Type) (enc : TypeId × Value → H) :
    ReturnsInHanded {} Yba.checked os 3 .any (Rows.lawS6224BWholeSpec.pre6 enc Yba.prog Yba.f3 Rows.lawS6224BWholeRow.domain false) (Rows.lawS6224BWholeSpec.post enc Yba.prog Yba.f3 false true false false) := by
  refine returnsInHanded_of_change (C := Yba.checked) own started (by kernel_rfl) Yba.func3
    (ChangeSpec.witness6 (enc := enc) (C := Yba.checked) false ⟨#[], #[.int .i64 0, .float .f64 0, .int .i64 0, .int .u32 0, .agg #[.int .u8 0, .int .u8 0, .int .u8 0, .int .u8 0, .int .u8 0, .int .u8 0, .int .u8 0, .int .u8 0, .int .u8 0, .int .u8 0, .int .u8 0, .int .u8 0, .int .u8 0, .int .u8 0, .int .u8 0, .int .u8 0, .int .u8 0, .int .u8 0, .int .u8 0, .int .u8 0], .int .i64 0], []⟩ 8 (by kernel_rfl) (by kernel_rfl) (by kernel_rfl) (by kernel_rfl)) ?_
  intro W base args ds gs before hval0 hW hcnd _
  have hval : ∀ (j : Nat) t v, Yba.f3.params[j]? = some t → args[j]? = some v → Value.okWide Yba.prog W .any base t v := hval0
  have hW' := hW
  obtain ⟨p, q, hA0, hV, rfl, hfz, hnd⟩ := hW
  have hA : DataW.TrodAll enc Yba.prog W 0 (fun _ => true) true Yba.f3.params.toList args.toList ds p := hA0
  rw [Yba.params3] at hA hval
  obtain ⟨v0, vs0, d0, ds0, p0, q0, hargs, rfl, rfl, h0, r0⟩ := trodAll_cons hA
  obtain ⟨v1, vs1, d1, ds1, p1, q1, rfl, rfl, rfl, h1, r1⟩ := trodAll_cons r0
  obtain ⟨v2, vs2, d2, ds2, p2, q2, rfl, rfl, rfl, h2, r2⟩ := trodAll_cons r1
  obtain ⟨v3, vs3, d3, ds3, p3, q3, rfl, rfl, rfl, h3, r3⟩ := trodAll_cons r2
  obtain ⟨v4, vs4, d4, ds4, p4, q4, rfl, rfl, rfl, h4, r4⟩ := trodAll_cons r3
  obtain ⟨v5, vs5, d5, ds5, p5, q5, rfl, rfl, rfl, h5, r5⟩ := trodAll_cons r4
  obtain ⟨rfl, rfl, rfl⟩ := trodAll_nil r5
  obtain rfl : args = #[v0, v1, v2, v3, v4, v5] := by cases args; simp_all
  obtain ⟨rfl, rfl⟩ := trodVars_none hV
  obtain ⟨a0, rfl, rfl, rfl, w0⟩ := open_int Yba.underlying3 (hval 0 3 v0 rfl rfl) h0
  obtain ⟨a1, rfl, rfl, rfl, w1⟩ := open_float Yba.underlying22 (hval 1 22 v1 rfl rfl) h1
  obtain ⟨a2, rfl, rfl, rfl, w2⟩ := open_int Yba.underlying3 (hval 2 3 v2 rfl rfl) h2
  obtain ⟨a3, rfl, rfl, rfl, w3⟩ := open_int Yba.underlying23 (hval 3 23 v3 rfl rfl) h3
  obtain ⟨cs, rfl, hsz⟩ := okWide_arr Yba.underlying24 (hval 4 24 v4 rfl rfl)
  rw [cells24] at hsz
  have k4 := h4
  have lt4 : ∀ x ∈ p4, x.block < W.heap.size := by obtain ⟨m, hm⟩ := k4; exact DataW.trod_lt m _ _ _ hm
  have hcs := bytes_of h4
  obtain ⟨a5, rfl, rfl, rfl, w5⟩ := open_int Yba.underlying3 (hval 5 3 v5 rfl rfl) h5
  clear hA0 hval0
  refine (walk a0 a2 a3 a5 a1 cs W hsz hcs).mono fun e W' ⟨he, bel⟩ => ?_
  subst he
  exact ⟨_, rfl, _, _, _, [], _, [], hW', trodAll_mk1 (shut_bool Yba.underlying4 _), (trodAll_cons_mk (shut_int Yba.underlying3 w0) (trodAll_cons_mk (shut_float Yba.underlying22 w1) (trodAll_cons_mk (shut_int Yba.underlying3 w2) (trodAll_cons_mk (shut_int Yba.underlying23 w3) (trodAll_cons_mk (Below.trod laidOut (by kernel_rfl) (of_decide_eq_true (by kernel_rfl)) k4 bel lt4) (trodAll_cons_mk (shut_int Yba.underlying3 w5) trodAll_mk0)))))), rfl, bel.frame _, fun h => by cases h⟩

/-- ████ THE STATEMENT ████ -/
theorem proved : Rows.LawS6224BWholeSaid :=
  OpenClaim.holds_of_wide 3 Yba.f3 rfl rfl rfl rfl rfl rfl rfl ⟨rfl, rfl, rfl, rfl, rfl⟩ rfl rfl rfl rfl rfl (by kernel_rfl) Yba.func3 (by kernel_rfl)
    (of_decide_eq_true (by kernel_rfl)) (by unfold Func.isWrapper; first | (rw [if_pos (by decide +kernel)]; kernel_rfl) | (rw [if_neg (by decide +kernel)]; exact ⟨rfl, rfl⟩))
    (fun os started H enc _ => lifted os started H enc)
end Go.Proofs.Ybulkdxwk.lawS6224BWhole
