/-
  The card of 'gofathom.LawS6226BWhole': told and tied. The row's step after the kit's worked texts (PortTold, PortSeven), at this function's numbers; the walk is YbulkdxxmFmtLaw's.
-/
import Derived.Test.YbulkdxxmFmtRows
import Derived.Test.YbulkdxxmFmtTie
import Derived.Test.YbulkdxxmFmtCards
import Derived.Test.YbulkdxxmFmtLaw
import Derived.ProofKit
import Derived.LaidMore
import Derived.OpenShut
import Derived.Stop.JoinedAt
import Derived.Stop.Texts
import Derived.Stop.JoinedTold
import Derived.Stop.LaidErr
import Derived.SevenTiedAt
import Derived.Deep.DeepWitnessRef
import Derived.Below
namespace Go.Proofs.YbulkdxxmFmt.lawS6226BWhole
open Go.ChangeShapes Go.WideShapes Go.ChangeAt Go.RowKit Go.Extern.Stop Go.Stop Go.Extern

theorem own : ownKnob Ybaf.prog.godebug = none := by kernel_rfl
theorem laidOut : laidOutB Ybaf.prog = true := by kernel_rfl
theorem gErr : Ybaf.prog.globalNamed "io.ErrUnexpectedEOF" = some 2 := by kernel_rfl
theorem tErr : (Ybaf.prog.globals[2]?).map (·.type) = some 28 := by kernel_rfl
theorem cells69 : Ybaf.prog.cellsOf 69 = 1 := by kernel_rfl
theorem cells9 : Ybaf.prog.cellsOf 9 = 1 := by kernel_rfl
theorem starred : "*" ++ "errors.errorString" = "*errors.errorString" := by decide
theorem row67 (u : TypeId) (h : Ybaf.prog.typeName? 3 u = some "*errors.errorString") : u = 67 := by
  exact typeName_ptr_named (nm := "errors.errorString") (by rw [starred]; kernel_rfl) (by kernel_rfl) (by decide) u (by rw [starred]; exact h)

/-- What the row lists. -/
abbrev laidL : List (String × DataW Unit) := [("io.ErrUnexpectedEOF", Rows.laid_io_ErrUnexpectedEOF)]

/-- The heap that the door's own run leaves meets the condition. -/
theorem door_met (os : Os) (args : Array Value) : laidMetH Ybaf.prog laidL ((World.doorLaid Ybaf.prog 28 os).forCall (fun _ _ => 0) ⟨#[], args, []⟩).memory :=
  laidMetH_of_parts3 (fuel := 8) (laidMet_of_run' 8 (by kernel_rfl) (by kernel_rfl)) (by kernel_rfl) (by kernel_rfl)

/-- What the condition gives the walk. -/
theorem of_laid {W : World} (h : laidMetH Ybaf.prog laidL W) : ∃ a : Addr, W.cell? ⟨2, 0, none⟩ = some (.iface 67 (.pointer (some a))) := by
  rw [MakeChecks.laidMetH_plain _ _ _ (by kernel_rfl)] at h
  obtain ⟨a0, s0, hv0, _, _, _⟩ := laid_sentinel h gErr tErr Ybaf.underlying28 row67 Ybaf.underlying67 Ybaf.underlying69 rfl rfl Ybaf.underlying9 cells69 cells9
  exact ⟨a0, by simpa using World.var?_cell gErr hv0 0⟩

theorem range_u8' {z : Int} (h : (Lit.int .u8 z).wf = true) : 0 ≤ z ∧ z ≤ 255 := by
  have := range_u8 (zs := [z]) (by simpa using h) 0
  simpa using this

theorem nat_of {z : Int} (h : (Lit.int .u8 z).wf = true) : ∃ n : Nat, z = n ∧ n ≤ 255 := by
  have := range_u8' h
  exact ⟨z.toNat, by omega, by omega⟩

set_option maxRecDepth 100000 in
theorem walk (F : Interp) (a0 : Option Addr) (len0 cap0 : Nat) (z0 : List Int) (a1 a2 a3 a4 a5 : Int) (b6 : Bool) (a7 a8 : Int) (b9 b10 : Bool) (a11 : Int) (w : World) (hF : F.answers w.tape)
    (hrow : (a0 = none ∧ len0 = 0 ∧ cap0 = 0 ∧ z0 = []) ∨ ∃ x, a0 = some x ∧ len0 ≤ cap0 ∧ cap0 ≤ maxLen ∧ z0.length = cap0 ∧ (∀ i, i < z0.length → w.cell? (x.add i) = some (.int .u8 (z0.getD i 0))) ∧ ∀ n ∈ z0, (Lit.int .u8 n).wf = true)
    (hg : ∃ a, w.cell? ⟨2, 0, none⟩ = some (.iface 67 (.pointer (some a)))) (w1 : (Lit.int .u8 a1).wf = true) (w2 : (Lit.int .u8 a2).wf = true) (w3 : (Lit.int .u8 a3).wf = true) (w4 : (Lit.int .u8 a4).wf = true) (w5 : (Lit.int .u8 a5).wf = true) (w7 : (Lit.int .u8 a7).wf = true) (w8 : (Lit.int .u8 a8).wf = true) (w11 : (Lit.int .u8 a11).wf = true) :
    Calls Ybaf.prog 3 #[.slice a0 len0 cap0, .int .u8 a1, .int .u8 a2, .int .u8 a3, .int .u8 a4, .int .u8 a5, .bool b6, .int .u8 a7, .int .u8 a8, .bool b9, .bool b10, .int .u8 a11] w fun e w' => e = .returned (.bool true) ∧ Below w.heap.size w w' := by
  by_cases hbig : 1048576 < len0
  · have hgt : (1048576 : Int) < (len0 : Int) := by omega
    clear hrow hg w1 w2 w3 w4 w5 w7 w8 w11 hF
    go_enter Ybaf.func3, Ybaf.ntmps3
    go_wp2
    go_ret
    exact ⟨rfl, Below.refl _ _⟩
  obtain ⟨n1, rfl, m1⟩ := nat_of w1
  obtain ⟨n2, rfl, m2⟩ := nat_of w2
  obtain ⟨n3, rfl, m3⟩ := nat_of w3
  obtain ⟨n4, rfl, m4⟩ := nat_of w4
  obtain ⟨n5, rfl, m5⟩ := nat_of w5
  obtain ⟨n7, rfl, m7⟩ := nat_of w7
  obtain ⟨n8, rfl, m8⟩ := nat_of w8
  obtain ⟨n11, rfl, m11⟩ := nat_of w11
  refine law_any F a0 len0 cap0 z0 n1 n2 n3 n4 n5 n7 n8 n11 (len0 + 200) b6 b9 b10 w hF m1 m2 m3 m4 m5 m7 m8 m11 (by omega) rfl (fun hp => ?_) (fun i => ?_) hg
  · rcases hrow with ⟨rfl, rfl, rfl, rfl⟩ | ⟨x, rfl, hl, hm, hz, hcell, hwz⟩
    · omega
    · obtain ⟨b, off, spot⟩ := x
      have hspot : spot = none := by simpa [Addr.add] using World.cell?_spot (hcell 0 (by omega))
      subst hspot
      refine ⟨b, off, rfl, ?_, fun i hi => ?_⟩
      · have := block_lt_of_cell (hcell 0 (by omega))
        simpa [Addr.add] using this
      · have := hcell i (by omega)
        rw [add_plain] at this
        exact this
  · rcases hrow with ⟨_, _, _, rfl⟩ | ⟨x, _, _, _, _, _, hwz⟩
    · simp
    · by_cases hi : i < z0.length
      · have := range_u8' (hwz (z0.getD i 0) (by simp [List.getD, hi]))
        omega
      · have h0 : z0.getD i 0 = 0 := by rw [List.getD, List.getElem?_eq_none (by omega)]; rfl
        rw [h0]; exact ⟨Int.le_refl 0, by decide⟩

/-- One start that fits. -/
abbrev args0 : Array Value := #[.slice none 0 0, .int .u8 0, .int .u8 0, .int .u8 0, .int .u8 0, .int .u8 0, .bool false, .int .u8 0, .int .u8 0, .bool false, .bool false, .int .u8 0]

theorem witness_row (os : Os) {H : Type} (enc : TypeId × Value → H) :
    (OpenSpec.ofChange Rows.lawS6226BWholeSpec).preRow enc Ybaf.prog Ybaf.f3 Rows.lawS6226BWholeRow.domain false Rows.lawS6226BWholeRow.laid ((World.doorLaid Ybaf.prog 28 os).forCall (fun _ _ => 0) ⟨#[], args0, []⟩).memory args0 := by
  have hw : (DataW.whole enc Ybaf.prog ((World.doorLaid Ybaf.prog 28 os).forCall (fun _ _ => 0) ⟨#[], args0, []⟩).memory Ybaf.f3.params.toList (OpenSpec.ofChange Rows.lawS6226BWholeSpec).vars false args0.toList 8).isSome = true := by kernel_rfl
  obtain ⟨x, hx⟩ := Option.isSome_iff_exists.1 hw
  exact OpenSpec.preRow_of_cond 8 hx (by kernel_rfl) (fun k hk => by cases hk) (by kernel_rfl) (door_met os _)

set_option maxRecDepth 100000 in
theorem lifted (os : Os) (started : os.Started) (H : Type) (enc : TypeId × Value → H) :
    ReturnsInTold none {} Ybaf.checked os 3 .any Input.okWide ((OpenSpec.ofChange Rows.lawS6226BWholeSpec).preRow enc Ybaf.prog Ybaf.f3 Rows.lawS6226BWholeRow.domain false Rows.lawS6226BWholeRow.laid)
      (fun F => ((OpenSpec.ofChange Rows.lawS6226BWholeSpec).at F).post enc Ybaf.prog Ybaf.f3 false true false false) (aloneAtReturn Ybaf.prog) nothingAlways := by
  refine returnsInTold_of_row (C := Ybaf.checked) (s := OpenSpec.ofChange Rows.lawS6226BWholeSpec) (by kernel_rfl) own started (by kernel_rfl) Ybaf.func3
    (OpenSpec.witness_stopped_atRef (enc := enc) (C := Ybaf.checked) false (World.doorLaid Ybaf.prog 28 os) args0 rfl (by kernel_rfl) (by kernel_rfl) (by kernel_rfl) (witness_row os enc)) ?_
  intro F W base args ds gs before _ hF hval0 hW _ _ _ hL _
  have hval : ∀ (j : Nat) t v, Ybaf.f3.params[j]? = some t → args[j]? = some v → Value.okWide Ybaf.prog W .any base t v := hval0
  have hW' := hW
  obtain ⟨p, q, hA0, hV0, rfl, hfz, hnd⟩ := hW
  have hA : DataW.TrodAll enc Ybaf.prog W 0 (fun _ => true) true Ybaf.f3.params.toList args.toList ds p := hA0
  rw [Ybaf.params3] at hA hval
  obtain ⟨v0, vs0, d0, ds0, p0, q0, hargs, rfl, rfl, h0, r0⟩ := trodAll_cons hA
  obtain ⟨v1, vs1, d1, ds1, p1, q1, rfl, rfl, rfl, h1, r1⟩ := trodAll_cons r0
  obtain ⟨v2, vs2, d2, ds2, p2, q2, rfl, rfl, rfl, h2, r2⟩ := trodAll_cons r1
  obtain ⟨v3, vs3, d3, ds3, p3, q3, rfl, rfl, rfl, h3, r3⟩ := trodAll_cons r2
  obtain ⟨v4, vs4, d4, ds4, p4, q4, rfl, rfl, rfl, h4, r4⟩ := trodAll_cons r3
  obtain ⟨v5, vs5, d5, ds5, p5, q5, rfl, rfl, rfl, h5, r5⟩ := trodAll_cons r4
  obtain ⟨v6, vs6, d6, ds6, p6, q6, rfl, rfl, rfl, h6, r6⟩ := trodAll_cons r5
  obtain ⟨v7, vs7, d7, ds7, p7, q7, rfl, rfl, rfl, h7, r7⟩ := trodAll_cons r6
  obtain ⟨v8, vs8, d8, ds8, p8, q8, rfl, rfl, rfl, h8, r8⟩ := trodAll_cons r7
  obtain ⟨v9, vs9, d9, ds9, p9, q9, rfl, rfl, rfl, h9, r9⟩ := trodAll_cons r8
  obtain ⟨v10, vs10, d10, ds10, p10, q10, rfl, rfl, rfl, h10, r10⟩ := trodAll_cons r9
  obtain ⟨v11, vs11, d11, ds11, p11, q11, rfl, rfl, rfl, h11, r11⟩ := trodAll_cons r10
  obtain ⟨rfl, rfl, rfl⟩ := trodAll_nil r11
  obtain rfl : args = #[v0, v1, v2, v3, v4, v5, v6, v7, v8, v9, v10, v11] := by cases args; simp_all
  obtain ⟨rfl, rfl⟩ := trodVars_none hV0
  have hg := of_laid hL
  obtain ⟨a0, len0, cap0, rfl⟩ := okWide_slice Ybaf.underlying22 (hval 0 22 v0 rfl rfl)
  have k0 := h0
  have lt0 : ∀ x ∈ p0, x.block < W.heap.size := by obtain ⟨m, hm⟩ := k0; exact DataW.trod_lt m _ _ _ hm
  obtain ⟨z0, w0⟩ : ∃ zs, (a0 = none ∧ len0 = 0 ∧ cap0 = 0 ∧ zs = []) ∨ ∃ x, a0 = some x ∧ len0 ≤ cap0 ∧ cap0 ≤ maxLen ∧ zs.length = cap0 ∧ (∀ i, i < zs.length → W.cell? (x.add i) = some (.int .u8 (zs.getD i 0))) ∧ ∀ n ∈ zs, (Lit.int .u8 n).wf = true := by
    obtain ⟨fuel, hf⟩ := h0
    rcases open_ints Ybaf.underlying22 Ybaf.underlying5 (by kernel_rfl) hf with ⟨hcs, _⟩ | ⟨x, l, c, zs, hcs, _, hl, hm, hz, _, hcell, hwz⟩
    · simp [Value.cells] at hcs
      obtain ⟨rfl, rfl, rfl⟩ := hcs
      exact ⟨[], .inl ⟨rfl, rfl, rfl, rfl⟩⟩
    · simp [Value.cells] at hcs
      obtain ⟨rfl, rfl, rfl⟩ := hcs
      exact ⟨zs, .inr ⟨_, rfl, hl, hm, by simpa using hz, hcell, hwz⟩⟩
  obtain ⟨a1, rfl, rfl, rfl, w1⟩ := open_int Ybaf.underlying5 (hval 1 5 v1 rfl rfl) h1
  obtain ⟨a2, rfl, rfl, rfl, w2⟩ := open_int Ybaf.underlying5 (hval 2 5 v2 rfl rfl) h2
  obtain ⟨a3, rfl, rfl, rfl, w3⟩ := open_int Ybaf.underlying5 (hval 3 5 v3 rfl rfl) h3
  obtain ⟨a4, rfl, rfl, rfl, w4⟩ := open_int Ybaf.underlying5 (hval 4 5 v4 rfl rfl) h4
  obtain ⟨a5, rfl, rfl, rfl, w5⟩ := open_int Ybaf.underlying5 (hval 5 5 v5 rfl rfl) h5
  obtain ⟨b6, rfl, rfl, rfl⟩ := open_bool Ybaf.underlying4 (hval 6 4 v6 rfl rfl) h6
  obtain ⟨a7, rfl, rfl, rfl, w7⟩ := open_int Ybaf.underlying5 (hval 7 5 v7 rfl rfl) h7
  obtain ⟨a8, rfl, rfl, rfl, w8⟩ := open_int Ybaf.underlying5 (hval 8 5 v8 rfl rfl) h8
  obtain ⟨b9, rfl, rfl, rfl⟩ := open_bool Ybaf.underlying4 (hval 9 4 v9 rfl rfl) h9
  obtain ⟨b10, rfl, rfl, rfl⟩ := open_bool Ybaf.underlying4 (hval 10 4 v10 rfl rfl) h10
  obtain ⟨a11, rfl, rfl, rfl, w11⟩ := open_int Ybaf.underlying5 (hval 11 5 v11 rfl rfl) h11
  clear hA0 hval0 hV0
  refine (walk F.told a0 len0 cap0 z0 a1 a2 a3 a4 a5 b6 a7 a8 b9 b10 a11 W hF w0 hg w1 w2 w3 w4 w5 w7 w8 w11).mono fun e W' ⟨he, bel⟩ => ?_
  subst he
  exact ⟨_, rfl, _, _, _, [], _, [], hW', trodAll_mk1 (shut_bool Ybaf.underlying4 _), (trodAll_cons_mk (Below.trod laidOut (by kernel_rfl) (of_decide_eq_true (by kernel_rfl)) k0 bel lt0) (trodAll_cons_mk (shut_int Ybaf.underlying5 w1) (trodAll_cons_mk (shut_int Ybaf.underlying5 w2) (trodAll_cons_mk (shut_int Ybaf.underlying5 w3) (trodAll_cons_mk (shut_int Ybaf.underlying5 w4) (trodAll_cons_mk (shut_int Ybaf.underlying5 w5) (trodAll_cons_mk (shut_bool Ybaf.underlying4 _) (trodAll_cons_mk (shut_int Ybaf.underlying5 w7) (trodAll_cons_mk (shut_int Ybaf.underlying5 w8) (trodAll_cons_mk (shut_bool Ybaf.underlying4 _) (trodAll_cons_mk (shut_bool Ybaf.underlying4 _) (trodAll_cons_mk (shut_int Ybaf.underlying5 w11) (trodAll_mk0))))))))))))), rfl, bel.frame _, fun h => by cases h⟩

theorem stops : Ybaf.pinned.checked.prog.stops = ["fmt.errorf"] := by kernel_rfl
theorem stopKnobs : Ybaf.pinned.checked.prog.stopKnobs = [] := by kernel_rfl
theorem quiet (os : Os) : Stop.quiet Ybaf.pinned.checked.prog os := by
  intro k hk
  rw [stopKnobs] at hk
  cases hk

/-- ████ THE CARD ████ -/
theorem proved : Rows.LawS6226BWholeToldSaid :=
  Claim7.holds_of_told_tied_any_at .later 3 Ybaf.f3 "fmt.errorf" [] [] _ _ _ _ _ (by kernel_rfl) rfl rfl rfl (show laidOutB Ybaf.pinned.checked.prog = true by kernel_rfl) (by kernel_rfl) rfl ⟨rfl, rfl, rfl, rfl, rfl, rfl, rfl⟩ rfl rfl (by kernel_rfl) (by kernel_rfl) Ybaf.func3 (by kernel_rfl)
    (of_decide_eq_true (by kernel_rfl)) (by unfold Func.isWrapper; first | (rw [if_pos (by decide +kernel)]; kernel_rfl) | (rw [if_neg (by decide +kernel)]; exact ⟨rfl, rfl⟩)) stops.symm rfl stopKnobs.symm (by kernel_rfl)
    (by kernel_rfl) (by kernel_rfl) (by kernel_rfl) (by kernel_rfl) (by kernel_rfl) (by kernel_rfl) (by kernel_rfl) (by kernel_rfl) (by kernel_rfl) rfl (by kernel_rfl) rfl rfl
    rfl rfl
    rfl (by kernel_rfl) (by kernel_rfl) (by kernel_rfl) (by decide) (by kernel_rfl) lawS6226BWhole_row_tie
    (OpenClaim.moreEntering_of (by kernel_rfl) (by kernel_rfl) (by kernel_rfl) (by kernel_rfl) (by kernel_rfl) (by kernel_rfl) (by kernel_rfl) (by kernel_rfl) (by kernel_rfl) (by kernel_rfl))
    ⟨_, WideRow.started_initial, quiet _⟩
    (fun os started _ H enc _ => lifted os started H enc)
end Go.Proofs.YbulkdxxmFmt.lawS6226BWhole
