/-
  The proof of LawS6230AWholeSaid.
-/
import Derived.Test.YbulkdxzqLawA
import Derived.Test.YbulkdxzqLawC
import Derived.Test.YbulkdxzqBig
import Derived.Test.YbulkdxzqLawB1
import Derived.Test.YbulkdxzqLawB2
import Derived.Test.YbulkdxzqLawB3
import Derived.Test.YbulkdxzqLawB4
import Derived.Test.YbulkdxzqLawB5
import Derived.Test.YbulkdxzqLawB6
import Derived.Test.YbulkdxzqLawB7
import Derived.Test.YbulkdxzqLawB8
import Derived.Test.YbulkdxzqLawB9
import Derived.WalkKit
import Derived.ProofKit
import Derived.OpenShut
import Derived.ShutString
import Derived.ChangeOld
import Derived.Below
namespace Go.Proofs.Ybulkdxzq.lawS6230AWhole
open Go.ChangeShapes Go.WideShapes Go.ChangeAt Go.RowKit
open Go.ChangeMaps (open_string shut_string)
set_option linter.unusedVariables false

theorem own : ownKnob Yba.prog.godebug = none := by kernel_rfl
theorem laidOut : laidOutB Yba.prog = true := by kernel_rfl

/-- WHAT THE WALK IS TOLD OF A SLICE OF INTEGERS THAT CAME IN: it is nil; or it leads to a row of 'cap' cells, the numbers 'zs' (the first 'len' are its elements, the rest its spare room), each fitting its kind. -/
def IsRow (k : IntKind) (w : World) (a : Option Addr) (len cap : Nat) (zs : List Int) : Prop :=
  (a = none ∧ len = 0 ∧ cap = 0 ∧ zs = []) ∨
  ∃ x, a = some x ∧ len ≤ cap ∧ cap ≤ maxLen ∧ zs.length = cap ∧ (∀ i, i < zs.length → w.cell? (x.add i) = some (.int k (zs.getD i 0))) ∧ ∀ n ∈ zs, (Lit.int k n).wf = true

theorem row_of {w : World} {a : Option Addr} {len cap : Nat} {z : List Int} (h : IsRow .u8 w a len cap z) : RowAt w a len (z.take len) ∧ (a = none → cap = 0) ∧ len ≤ cap := by
  rcases h with ⟨rfl, rfl, rfl, rfl⟩ | ⟨x, rfl, hl, hm, hz, hcell, hwz⟩
  · exact ⟨⟨rfl, fun _ => rfl, fun h => absurd h (Nat.lt_irrefl _)⟩, fun _ => rfl, Nat.le_refl _⟩
  · refine ⟨⟨by simp; omega, (fun h => nomatch h), fun hp => ?_⟩, (fun h => nomatch h), hl⟩
    obtain ⟨b, off, spot⟩ := x
    have hspot : spot = none := by simpa [Addr.add] using World.cell?_spot (hcell 0 (by omega))
    subst hspot
    refine ⟨b, off, rfl, ?_, fun i hi => ?_⟩
    · have := block_lt_of_cell (hcell 0 (by omega))
      simpa [Addr.add] using this
    · have := hcell i (by omega)
      rw [add_plain] at this
      rw [this]
      simp [List.getD, hi]

theorem law_small (fa ka da : Option Addr) (fl fc nk kc nd dc : Nat) (lf lk ld : List Int) (off ns : Int) (w : World)
    (hf : RowAt w fa fl lf) (hk : RowAt w ka nk lk) (hd : RowAt w da nd ld) (hkc : ka = none → kc = 0) (hdc : da = none → dc = 0) (hsm : fl + nk + nd ≤ 1048576) (hns : -9223372036854775808 ≤ ns ∧ ns ≤ 9223372036854775807) (hfc : fl ≤ fc) :
    Calls Yba.prog 3 #[.slice fa fl fc, .slice ka nk kc, .slice da nd dc, .int .i64 off, .int .i64 ns] w fun e w' => e = .returned (.bool true) ∧ Below w.heap.size w w' := by
  by_cases hn0 : nk + nd = 0
  · by_cases hp : 0 < fl
    · exact law_zero_some fa ka da fl fc nk kc nd dc lf lk ld off ns w hf hk hd hkc hdc hsm hns hn0 hp
    · exact law_zero_none fa ka da fl fc nk kc nd dc lf lk ld off ns w hf hk hd hkc hdc hsm hns hn0 (by omega)
  by_cases hbig : 256 < nk + nd
  · by_cases hp : 0 < fl
    · exact law_big_some fa ka da fl fc nk kc nd dc lf lk ld off ns w hf hk hd hkc hdc hsm hns hbig hp
    · exact law_big_none fa ka da fl fc nk kc nd dc lf lk ld off ns w hf hk hd hkc hdc hsm hns hbig (by omega)
  by_cases hroom : fl < nk + nd
  · exact law_fresh fa ka da fl fc nk kc nd dc lf lk ld off ns w hf hk hd hkc hdc hsm hns (by omega) (by omega) hroom
  by_cases hm : nk + nd < fl
  · by_cases h1 : 0 < nk
    · by_cases h2 : 0 < nd
      · exact law_room_1 fa ka da fl fc nk kc nd dc lf lk ld off ns w hf hk hd hkc hdc hsm hns hfc (by omega) (by omega) (by omega) hm h1 h2
      · exact law_room_2 fa ka da fl fc nk kc nd dc lf lk ld off ns w hf hk hd hkc hdc hsm hns hfc (by omega) (by omega) (by omega) hm h1 h2
    · exact law_room_3 fa ka da fl fc nk kc nd dc lf lk ld off ns w hf hk hd hkc hdc hsm hns hfc (by omega) (by omega) (by omega) hm h1 (by omega)
  by_cases hz : fc = nk + nd
  · by_cases h1 : 0 < nk
    · by_cases h2 : 0 < nd
      · exact law_room_7 fa ka da fl fc nk kc nd dc lf lk ld off ns w hf hk hd hkc hdc hsm hns hfc (by omega) (by omega) (by omega) (by omega) h1 h2 hz
      · exact law_room_8 fa ka da fl fc nk kc nd dc lf lk ld off ns w hf hk hd hkc hdc hsm hns hfc (by omega) (by omega) (by omega) (by omega) h1 h2 hz
    · exact law_room_9 fa ka da fl fc nk kc nd dc lf lk ld off ns w hf hk hd hkc hdc hsm hns hfc (by omega) (by omega) (by omega) (by omega) h1 (by omega) hz
  · by_cases h1 : 0 < nk
    · by_cases h2 : 0 < nd
      · exact law_room_4 fa ka da fl fc nk kc nd dc lf lk ld off ns w hf hk hd hkc hdc hsm hns hfc (by omega) (by omega) (by omega) (by omega) h1 h2 hz
      · exact law_room_5 fa ka da fl fc nk kc nd dc lf lk ld off ns w hf hk hd hkc hdc hsm hns hfc (by omega) (by omega) (by omega) (by omega) h1 h2 hz
    · exact law_room_6 fa ka da fl fc nk kc nd dc lf lk ld off ns w hf hk hd hkc hdc hsm hns hfc (by omega) (by omega) (by omega) (by omega) h1 (by omega) hz

theorem walk (a0 : Option Addr) (len0 cap0 : Nat) (z0 : List Int) (a1 : Option Addr) (len1 cap1 : Nat) (z1 : List Int) (a2 : Option Addr) (len2 cap2 : Nat) (z2 : List Int) (a3 : Int) (a4 : Int) (w : World) (w0 : IsRow .u8 w a0 len0 cap0 z0) (w1 : IsRow .u8 w a1 len1 cap1 z1) (w2 : IsRow .u8 w a2 len2 cap2 z2) (w4 : (Lit.int .i64 a4).wf = true) :
    Calls Yba.prog 3 #[.slice a0 len0 cap0, .slice a1 len1 cap1, .slice a2 len2 cap2, .int .i64 a3, .int .i64 a4] w fun e w' => e = .returned (.bool true) ∧ Below w.heap.size w w' := by
  obtain ⟨r0, _, l0⟩ := row_of w0
  obtain ⟨r1, c1, _⟩ := row_of w1
  obtain ⟨r2, c2, _⟩ := row_of w2
  by_cases hbig : len0 + len1 + len2 ≤ 1048576
  · exact law_small a0 a1 a2 len0 cap0 len1 cap1 len2 cap2 _ _ _ a3 a4 w r0 r1 r2 c1 c2 hbig (by simpa [Lit.wf, IntKind.min, IntKind.max, IntKind.signed, IntKind.bits] using w4) l0
  · exact (law_great a0 a1 a2 len0 cap0 len1 cap1 len2 cap2 a3 a4 w hbig).mono fun e w' ⟨he, hw⟩ => ⟨he, by rw [hw]; exact Below.refl _ _⟩

/-! ### THE ROW's STEP: WRITTEN OUT: LEAVE IT -/
set_option maxRecDepth 100000 in
theorem lifted (os : Os) (started : os.Started) (H : Type) (enc : TypeId × Value → H) :
    ReturnsInHanded {} Yba.checked os 3 .any (Rows.lawS6230AWholeSpec.pre6 enc Yba.prog Yba.f3 Rows.lawS6230AWholeRow.domain false) (Rows.lawS6230AWholeSpec.post enc Yba.prog Yba.f3 false true false false) := by
  refine returnsInHanded_of_change (C := Yba.checked) own started (by kernel_rfl) Yba.func3
    (ChangeSpec.witness6 (enc := enc) (C := Yba.checked) false ⟨#[], #[.slice none 0 0, .slice none 0 0, .slice none 0 0, .int .i64 0, .int .i64 0], []⟩ 8 (by kernel_rfl) (by kernel_rfl) (by kernel_rfl) (by kernel_rfl)) ?_
  intro W base args ds gs before hval0 hW hcnd _
  have hval : ∀ (j : Nat) t v, Yba.f3.params[j]? = some t → args[j]? = some v → Value.okWide Yba.prog W .any base t v := hval0
  have hW' := hW
  obtain ⟨p, q, hA0, hV, rfl, hfz, hnd⟩ := hW
  have hA : DataW.TrodAll enc Yba.prog W 0 (fun _ => true) true Yba.f3.params.toList args.toList ds p := hA0
  rw [Yba.params3] at hA hval
  obtain ⟨v0, vs0, d0, ds0, p0, q0, hargs, rfl, rfl, h0, r0⟩ := trodAll_cons hA
  obtain ⟨v1, vs1, d1, ds1, p1, q1, rfl, rfl, rfl, h1, r1⟩ := trodAll_cons r0
  obtain ⟨v2, vs2, d2, ds2, p2, q2, rfl, rfl, rfl, h2, r2⟩ := trodAll_cons r1
  obtain ⟨v3, vs3, d3, ds3, p3, q3, rfl, rfl, rfl, h3, r3⟩ := trodAll_cons r2
  obtain ⟨v4, vs4, d4, ds4, p4, q4, rfl, rfl, rfl, h4, r4⟩ := trodAll_cons r3
  obtain ⟨rfl, rfl, rfl⟩ := trodAll_nil r4
  obtain rfl : args = #[v0, v1, v2, v3, v4] := by cases args; simp_all
  obtain ⟨rfl, rfl⟩ := trodVars_none hV
  obtain ⟨a0, len0, cap0, rfl⟩ := okWide_slice Yba.underlying22 (hval 0 22 v0 rfl rfl)
  have k0 := h0
  have lt0 : ∀ x ∈ p0, x.block < W.heap.size := by obtain ⟨m, hm⟩ := k0; exact DataW.trod_lt m _ _ _ hm
  obtain ⟨z0, w0⟩ : ∃ zs, IsRow .u8 W a0 len0 cap0 zs := by
    obtain ⟨fuel, hf⟩ := h0
    rcases open_ints Yba.underlying22 Yba.underlying5 (by kernel_rfl) hf with ⟨hcs, _⟩ | ⟨x, l, c, zs, hcs, _, hl, hm, hz, _, hcell, hwz⟩
    · simp [Value.cells] at hcs
      obtain ⟨rfl, rfl, rfl⟩ := hcs
      exact ⟨[], .inl ⟨rfl, rfl, rfl, rfl⟩⟩
    · simp [Value.cells] at hcs
      obtain ⟨rfl, rfl, rfl⟩ := hcs
      exact ⟨zs, .inr ⟨_, rfl, hl, hm, by simpa using hz, hcell, hwz⟩⟩
  obtain ⟨a1, len1, cap1, rfl⟩ := okWide_slice Yba.underlying22 (hval 1 22 v1 rfl rfl)
  have k1 := h1
  have lt1 : ∀ x ∈ p1, x.block < W.heap.size := by obtain ⟨m, hm⟩ := k1; exact DataW.trod_lt m _ _ _ hm
  obtain ⟨z1, w1⟩ : ∃ zs, IsRow .u8 W a1 len1 cap1 zs := by
    obtain ⟨fuel, hf⟩ := h1
    rcases open_ints Yba.underlying22 Yba.underlying5 (by kernel_rfl) hf with ⟨hcs, _⟩ | ⟨x, l, c, zs, hcs, _, hl, hm, hz, _, hcell, hwz⟩
    · simp [Value.cells] at hcs
      obtain ⟨rfl, rfl, rfl⟩ := hcs
      exact ⟨[], .inl ⟨rfl, rfl, rfl, rfl⟩⟩
    · simp [Value.cells] at hcs
      obtain ⟨rfl, rfl, rfl⟩ := hcs
      exact ⟨zs, .inr ⟨_, rfl, hl, hm, by simpa using hz, hcell, hwz⟩⟩
  obtain ⟨a2, len2, cap2, rfl⟩ := okWide_slice Yba.underlying22 (hval 2 22 v2 rfl rfl)
  have k2 := h2
  have lt2 : ∀ x ∈ p2, x.block < W.heap.size := by obtain ⟨m, hm⟩ := k2; exact DataW.trod_lt m _ _ _ hm
  obtain ⟨z2, w2⟩ : ∃ zs, IsRow .u8 W a2 len2 cap2 zs := by
    obtain ⟨fuel, hf⟩ := h2
    rcases open_ints Yba.underlying22 Yba.underlying5 (by kernel_rfl) hf with ⟨hcs, _⟩ | ⟨x, l, c, zs, hcs, _, hl, hm, hz, _, hcell, hwz⟩
    · simp [Value.cells] at hcs
      obtain ⟨rfl, rfl, rfl⟩ := hcs
      exact ⟨[], .inl ⟨rfl, rfl, rfl, rfl⟩⟩
    · simp [Value.cells] at hcs
      obtain ⟨rfl, rfl, rfl⟩ := hcs
      exact ⟨zs, .inr ⟨_, rfl, hl, hm, by simpa using hz, hcell, hwz⟩⟩
  obtain ⟨a3, rfl, rfl, rfl, w3⟩ := open_int Yba.underlying2 (hval 3 2 v3 rfl rfl) h3
  obtain ⟨a4, rfl, rfl, rfl, w4⟩ := open_int Yba.underlying2 (hval 4 2 v4 rfl rfl) h4
  clear hA0 hval0
  refine (walk a0 len0 cap0 z0 a1 len1 cap1 z1 a2 len2 cap2 z2 a3 a4 W w0 w1 w2 w4).mono fun e W' ⟨he, bel⟩ => ?_
  subst he
  exact ⟨_, rfl, _, _, _, [], _, [], hW', trodAll_mk1 (shut_bool Yba.underlying4 _), (trodAll_cons_mk (Below.trod laidOut (by kernel_rfl) (of_decide_eq_true (by kernel_rfl)) k0 bel lt0) (trodAll_cons_mk (Below.trod laidOut (by kernel_rfl) (of_decide_eq_true (by kernel_rfl)) k1 bel lt1) (trodAll_cons_mk (Below.trod laidOut (by kernel_rfl) (of_decide_eq_true (by kernel_rfl)) k2 bel lt2) (trodAll_cons_mk (shut_int Yba.underlying2 w3) (trodAll_cons_mk (shut_int Yba.underlying2 w4) trodAll_mk0))))), rfl, bel.frame _, fun h => by cases h⟩

theorem over : Rows.lawS6230AWholeRow.holds Yba.pinned (OpenSpec.ofChange Rows.lawS6230AWholeSpec) :=
  OpenClaim.holds_of_wide 3 Yba.f3 rfl rfl rfl rfl rfl rfl rfl ⟨rfl, rfl, rfl, rfl, rfl⟩ rfl rfl rfl rfl rfl (by kernel_rfl) Yba.func3 (by kernel_rfl)
    (of_decide_eq_true (by kernel_rfl)) (by unfold Func.isWrapper; first | (rw [if_pos (by decide +kernel)]; kernel_rfl) | (rw [if_neg (by decide +kernel)]; exact ⟨rfl, rfl⟩))
    (fun os started H enc _ => lifted os started H enc)

/-- ████ THE STATEMENT ████ -/
theorem proved : Rows.LawS6230AWholeSaid := over
end Go.Proofs.Ybulkdxzq.lawS6230AWhole
