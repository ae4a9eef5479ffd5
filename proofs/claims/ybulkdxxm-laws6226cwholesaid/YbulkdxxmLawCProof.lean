/-
  The row of 'gofathom.LawS6226CWhole': the frame after the kit's skeleton for laws; the array opened by hand; the walk is YbulkdxxmLawC's.
-/
import Derived.Test.YbulkdxxmRows
import Derived.Test.YbulkdxxmLawC
import Derived.WalkKit
import Derived.ProofKit
import Derived.OpenShut
import Derived.ChangeOld
import Derived.ChangeArms
import Derived.Below
import Derived.Deep.Slices
namespace Go.Proofs.Ybulkdxxm.lawS6226CWhole
open Go.ChangeShapes Go.WideShapes Go.ChangeAt Go.RowKit

theorem own : ownKnob Yba.prog.godebug = none := by kernel_rfl
theorem laidOut : laidOutB Yba.prog = true := by kernel_rfl
theorem cells24 : Yba.prog.cellsOf 24 = 1 := by kernel_rfl
theorem cells39 : Yba.prog.cellsOf 39 = 4 := by kernel_rfl

/-- An array by value: its cells. -/
theorem okWide_arr {P : Program} {w : World} {r : Reach} {base : Nat} {t e : TypeId} {n : Nat} {v : Value} (ht : P.underlying t = some (.array n e)) (h : Value.okWide P w r base t v) : ∃ cs, v = .agg cs ∧ cs.size = P.cellsOf t := by
  simp only [Value.okWide, ht] at h
  obtain ⟨cs, h1, h2, _⟩ := h
  exact ⟨cs, h1, h2⟩

/-- Its numbers. -/
theorem nums_of {H : Type} {enc : TypeId × Value → H} {W : World} {cs : Array Value} {d : DataW H} {ps : List MemPlace} (h : DataW.Trod enc Yba.prog W 0 (fun _ => true) true 39 (.agg cs) d ps) :
    ∀ i, i < 4 → ∃ z : Int, cs[i]? = some (.int .u64 z) := by
  obtain ⟨fuel, hf⟩ := h
  obtain ⟨xs, m, rfl, hx, hlen, hn, hel⟩ := DataW.trod_array Yba.underlying39 hf
  intro i hi
  have he := hel i hi
  rw [cells24, Nat.mul_one] at he
  rw [List.getElem?_eq_getElem (by omega)] at he
  obtain ⟨z, e1, e2, hw⟩ := DataW.trod_int Yba.underlying24 he
  refine ⟨z, ?_⟩
  have := congrArg (fun l => l[0]?) e1
  simpa [Value.cells] using this

set_option maxRecDepth 100000 in
theorem walk (a0 : Option Addr) (len0 cap0 : Nat) (z0 : List Int) (a1 a2 a3 : Int) (cs : Array Value) (w : World)
    (hrow : (a0 = none ∧ len0 = 0 ∧ cap0 = 0 ∧ z0 = []) ∨ ∃ x, a0 = some x ∧ len0 ≤ cap0 ∧ cap0 ≤ maxLen ∧ z0.length = cap0 ∧ (∀ i, i < z0.length → w.cell? (x.add i) = some (.int .u64 (z0.getD i 0))) ∧ ∀ n ∈ z0, (Lit.int .u64 n).wf = true)
    (w2 : (Lit.int .u8 a2).wf = true) (hsz : cs.size = 4) (hcs : ∀ i, i < 4 → ∃ z : Int, cs[i]? = some (.int .u64 z)) :
    Calls Yba.prog 4 #[.slice a0 len0 cap0, .int .u64 a1, .int .u8 a2, .int .i64 a3, .agg cs] w fun e w' => e = .returned (.bool true) ∧ Below w.heap.size w w' := by
  obtain ⟨f, hf⟩ := Deep.choose_lt hcs
  have he : cs = #[.int .u64 (f 0), .int .u64 (f 1), .int .u64 (f 2), .int .u64 (f 3)] := by
    apply Array.ext_getElem?
    intro i
    match i with
    | 0 => rw [hf 0 (by omega)]; rfl
    | 1 => rw [hf 1 (by omega)]; rfl
    | 2 => rw [hf 2 (by omega)]; rfl
    | 3 => rw [hf 3 (by omega)]; rfl
    | i + 4 => rw [Array.getElem?_eq_none (by omega), Array.getElem?_eq_none (by simp)]
  subst he
  by_cases hbig : 1048576 < len0
  · have hgt : (1048576 : Int) < (len0 : Int) := by omega
    clear hrow w2 hsz hcs hf
    generalize f 0 = f0
    generalize f 1 = f1
    generalize f 2 = f2
    generalize f 3 = f3
    go_enter Yba.func4, Yba.ntmps4
    go_wp2
    go_ret
    exact ⟨rfl, (Below.refl _ w).alloc (Nat.le_refl _) _⟩
  obtain ⟨n2, rfl, m2⟩ : ∃ n : Nat, a2 = n ∧ n ≤ 255 := by
    have h := range_u8 (zs := [a2]) (by simpa using w2) 0
    simp at h
    exact ⟨a2.toNat, by omega, by omega⟩
  have hlen : (z0.take len0).length = len0 := by
    rcases hrow with ⟨_, rfl, _, _⟩ | ⟨x, _, hl, _, hz, _, _⟩
    · simp
    · simp; omega
  refine lawC_any a0 len0 cap0 (z0.take len0) a1 a3 (f 0) (f 1) (f 2) (f 3) n2 w m2 hlen (by omega) ?_
  rcases hrow with ⟨rfl, rfl, rfl, rfl⟩ | ⟨x, rfl, hl, hm, hz, hcell, hwz⟩
  · exact Or.inl ⟨rfl, rfl⟩
  · obtain ⟨b, off, spot⟩ := x
    rcases Nat.eq_zero_or_pos len0 with h0 | hp
    · exact Or.inr (Or.inl ⟨_, rfl, h0⟩)
    · have hspot : spot = none := by simpa [Addr.add] using World.cell?_spot (hcell 0 (by omega))
      subst hspot
      refine Or.inr (Or.inr ⟨b, off, rfl, fun i hi => ?_⟩)
      have := hcell i (by omega)
      rw [add_plain] at this
      rw [this]
      simp [List.getD, hi]

set_option maxRecDepth 100000 in
theorem lifted (os : Os) (started : os.Started) (H : Type) (enc : TypeId × Value → H) :
    ReturnsInHanded {} Yba.checked os 4 .any (Rows.lawS6226CWholeSpec.pre6 enc Yba.prog Yba.f4 Rows.lawS6226CWholeRow.domain false) (Rows.lawS6226CWholeSpec.post enc Yba.prog Yba.f4 false true false false) := by
  refine returnsInHanded_of_change (C := Yba.checked) own started (by kernel_rfl) Yba.func4
    (ChangeSpec.witness6 (enc := enc) (C := Yba.checked) false ⟨#[], #[.slice none 0 0, .int .u64 0, .int .u8 0, .int .i64 0, .agg #[.int .u64 0, .int .u64 0, .int .u64 0, .int .u64 0]], []⟩ 8 (by kernel_rfl) (by kernel_rfl) (by kernel_rfl) (by kernel_rfl)) ?_
  intro W base args ds gs before hval0 hW _ _
  have hval : ∀ (j : Nat) t v, Yba.f4.params[j]? = some t → args[j]? = some v → Value.okWide Yba.prog W .any base t v := hval0
  have hW' := hW
  obtain ⟨p, q, hA0, hV, rfl, hfz, hnd⟩ := hW
  have hA : DataW.TrodAll enc Yba.prog W 0 (fun _ => true) true Yba.f4.params.toList args.toList ds p := hA0
  rw [Yba.params4] at hA hval
  obtain ⟨v0, vs0, d0, ds0, p0, q0, hargs, rfl, rfl, h0, r0⟩ := trodAll_cons hA
  obtain ⟨v1, vs1, d1, ds1, p1, q1, rfl, rfl, rfl, h1, r1⟩ := trodAll_cons r0
  obtain ⟨v2, vs2, d2, ds2, p2, q2, rfl, rfl, rfl, h2, r2⟩ := trodAll_cons r1
  obtain ⟨v3, vs3, d3, ds3, p3, q3, rfl, rfl, rfl, h3, r3⟩ := trodAll_cons r2
  obtain ⟨v4, vs4, d4, ds4, p4, q4, rfl, rfl, rfl, h4, r4⟩ := trodAll_cons r3
  obtain ⟨rfl, rfl, rfl⟩ := trodAll_nil r4
  obtain rfl : args = #[v0, v1, v2, v3, v4] := by cases args; simp_all
  obtain ⟨rfl, rfl⟩ := trodVars_none hV
  obtain ⟨a0, len0, cap0, rfl⟩ := okWide_slice Yba.underlying38 (hval 0 38 v0 rfl rfl)
  have k0 := h0
  have lt0 : ∀ x ∈ p0, x.block < W.heap.size := by obtain ⟨m, hm⟩ := k0; exact DataW.trod_lt m _ _ _ hm
  obtain ⟨z0, w0⟩ : ∃ zs, (a0 = none ∧ len0 = 0 ∧ cap0 = 0 ∧ zs = []) ∨ ∃ x, a0 = some x ∧ len0 ≤ cap0 ∧ cap0 ≤ maxLen ∧ zs.length = cap0 ∧ (∀ i, i < zs.length → W.cell? (x.add i) = some (.int .u64 (zs.getD i 0))) ∧ ∀ n ∈ zs, (Lit.int .u64 n).wf = true := by
    obtain ⟨fuel, hf⟩ := h0
    rcases open_ints Yba.underlying38 Yba.underlying24 (by kernel_rfl) hf with ⟨hcs, _⟩ | ⟨x, l, c, zs, hcs, _, hl, hm, hz, _, hcell, hwz⟩
    · simp [Value.cells] at hcs
      obtain ⟨rfl, rfl, rfl⟩ := hcs
      exact ⟨[], .inl ⟨rfl, rfl, rfl, rfl⟩⟩
    · simp [Value.cells] at hcs
      obtain ⟨rfl, rfl, rfl⟩ := hcs
      exact ⟨zs, .inr ⟨_, rfl, hl, hm, by simpa using hz, hcell, hwz⟩⟩
  obtain ⟨a1, rfl, rfl, rfl, w1⟩ := open_int Yba.underlying24 (hval 1 24 v1 rfl rfl) h1
  obtain ⟨a2, rfl, rfl, rfl, w2⟩ := open_int Yba.underlying5 (hval 2 5 v2 rfl rfl) h2
  obtain ⟨a3, rfl, rfl, rfl, w3⟩ := open_int Yba.underlying3 (hval 3 3 v3 rfl rfl) h3
  obtain ⟨cs, rfl, hsz⟩ := okWide_arr Yba.underlying39 (hval 4 39 v4 rfl rfl)
  rw [cells39] at hsz
  have k4 := h4
  have lt4 : ∀ x ∈ p4, x.block < W.heap.size := by obtain ⟨m, hm⟩ := k4; exact DataW.trod_lt m _ _ _ hm
  have hcs := nums_of h4
  clear hA0 hval0
  refine (walk a0 len0 cap0 z0 a1 a2 a3 cs W w0 w2 hsz hcs).mono fun e W' ⟨he, bel⟩ => ?_
  subst he
  exact ⟨_, rfl, _, _, _, [], _, [], hW', trodAll_mk1 (shut_bool Yba.underlying4 _), (trodAll_cons_mk (Below.trod laidOut (by kernel_rfl) (of_decide_eq_true (by kernel_rfl)) k0 bel lt0) (trodAll_cons_mk (shut_int Yba.underlying24 w1) (trodAll_cons_mk (shut_int Yba.underlying5 w2) (trodAll_cons_mk (shut_int Yba.underlying3 w3) (trodAll_cons_mk (Below.trod laidOut (by kernel_rfl) (of_decide_eq_true (by kernel_rfl)) k4 bel lt4) trodAll_mk0))))), rfl, bel.frame _, fun h => by cases h⟩

/-- ████ THE STATEMENT ████ -/
theorem proved : Rows.LawS6226CWholeSaid :=
  OpenClaim.holds_of_wide 4 Yba.f4 rfl rfl rfl rfl rfl rfl rfl ⟨rfl, rfl, rfl, rfl, rfl⟩ rfl rfl rfl rfl rfl (by kernel_rfl) Yba.func4 (by kernel_rfl)
    (of_decide_eq_true (by kernel_rfl)) (by unfold Func.isWrapper; first | (rw [if_pos (by decide +kernel)]; kernel_rfl) | (rw [if_neg (by decide +kernel)]; exact ⟨rfl, rfl⟩))
    (fun os started H enc _ => lifted os started H enc)
end Go.Proofs.Ybulkdxxm.lawS6226CWhole
