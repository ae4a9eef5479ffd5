/-
  readError, fileBytes, regionBytes, at.
-/
import Derived.Test.YbulkdxxmFmtRead
namespace Go.Proofs.YbulkdxxmFmt
open Go.RowKit Go.Extern.Stop Go.Stop Go.Extern

set_option maxRecDepth 100000 in
set_option maxHeartbeats 400000 in
/-- 'readError': a new *fmt.wrapError that wraps the error. -/
theorem readError_any (F : Interp) (x : Box) (f : List Int) (c : Nat) (w : World) (hF : F.answers w.tape) (hx : x.Ok) (h : Env x f c w) :
    Calls Ybaf.prog 20 #[.pointer (some ⟨x.rb, 0, none⟩), .iface 67 (.pointer (some ⟨x.sb, 0, none⟩))] w
      fun e w' => ∃ pb, e = .returned (.iface 100 (.pointer (some ⟨pb, 0, none⟩))) ∧ w'.cell? ⟨pb, 1, none⟩ = some (.iface 67 (.pointer (some ⟨x.sb, 0, none⟩))) ∧ Below w.heap.size w w' := by
  have hF' : ∀ i name reading k range, w.tape i (.extern (word name reading k) range) = F name reading k := hF
  have hE := h.alloc hx (.cells #[.iface 9 (.string ⟨#[]⟩), .iface 67 (.pointer (some ⟨x.sb, 0, none⟩))] 20)
  have hop := Ybaf.opPlain67_119w "fmt.errorf" ⟨x.sb, 0, none⟩ x.txt _ hE.sent
  have h1 := h.r0
  clear h hE hx hF
  go_enter Ybaf.func20, Ybaf.ntmps20
  go_wp2
  go_ret
  exact ⟨_, rfl, by go_simp, ((Below.refl _ w).alloc (Nat.le_refl _) _ |>.alloc (by simp) _).drew⟩

/-- How often the reader has been asked behind one read. -/
def Box.next (x : Box) (c : Nat) : Nat := if x.mapped then c else c + 1
def Box.may (x : Box) (c : Nat) : Prop := x.mapped = true ∨ (x.mapped = false ∧ c ≠ x.fail ∧ c < 3)

set_option maxRecDepth 100000 in
set_option maxHeartbeats 400000 in
theorem fb_ok (x : Box) (f : List Int) (c off n : Nat) (w : World) (hx : x.Ok) (h : Env x f c w) (hc : x.may c) (hoff : off + n ≤ x.L) (hn : 0 < n) :
    Calls Ybaf.prog 19 #[.pointer (some ⟨x.ib, 0, none⟩), .int .u64 off, .int .u64 n] w
      fun e w' => ∃ b o, e = .returned (.tuple #[.slice (some ⟨b, o, none⟩) n n, .nilIface]) ∧ (∀ i, i < n → w'.cell? ⟨b, o + i, none⟩ = some (.int .u8 (f.getD (off + i) 0))) ∧ Kept x.db (x.next c) w w' := by
  rcases hc with hm | ⟨hm, hc, hc3⟩
  · have h1 := h.imS
    have h2 := h.imD
    rw [hm] at h2
    simp only [if_true] at h2
    have HR := show Hid ((∀ i, i < n → w.cell? ⟨x.fb, off + i, none⟩ = some (.int .u8 (f.getD (off + i) 0))) ∧ Kept x.db (x.next c) w w) from
      ⟨fun i hi => h.file _ (by omega), by unfold Box.next; rw [hm]; exact Kept.of_below (Below.refl _ _) h.d1⟩
    have := hx.L2
    clear h hx hm
    go_enter Ybaf.func19, Ybaf.ntmps19
    go_wp2
    go_ret2
    exact ⟨_, _, rfl, HR.out⟩
  · have h1 := h.imS
    have h2 := h.imD
    rw [hm] at h2
    simp only [if_false, Bool.false_eq_true] at h2
    have HC := show Hid (∀ W, W = w.alloc (.cells (madeCells #[.int .u8 0] n) 5) → Calls Ybaf.prog 21 #[.pointer (some ⟨x.ib, 0, none⟩), .slice (some ⟨w.heap.size, 0, none⟩) n n, .int .u64 off] W
      fun e w' => e = .returned .nilIface ∧ (∀ i, i < n → w'.cell? ⟨w.heap.size, i, none⟩ = some (.int .u8 (f.getD (off + i) 0))) ∧ Kept x.db (c + 1) w w') from
      fun W hW => by rw [hW]; exact readFile_ok x f c off n w hx hm h hc hc3 hoff hn
    have HN := show Hid (x.next c = c + 1) from by unfold Box.next; rw [hm]; rfl
    have hmk := run_make_row' (P := Ybaf.prog) 22 5 (.int .u8 0) 1 Ybaf.underlying22 Ybaf.info5 rfl .u64 .u64 n (by have := hx.L2; omega) (by have := hx.L2; omega)
    have := hx.L2
    clear h hx hm hc hc3
    go_enter Ybaf.func19, Ybaf.ntmps19
    go_wp2_with (go_at_call 21; refine (HC.out _ ?_).mono ?_; rfl; rintro e w1 ⟨rfl, hr1, hr2⟩)
    all_goals (try go_wp2)
    go_ret2
    exact ⟨_, 0, rfl, by simpa using hr1, by rw [HN.out]; exact hr2⟩

set_option maxRecDepth 100000 in
set_option maxHeartbeats 400000 in
theorem fb_fail (x : Box) (f : List Int) (off n : Nat) (w : World) (hx : x.Ok) (h : Env x f x.fail w) (hm : x.mapped = false) (hoff : off + n ≤ x.L) (hn : 0 < n) :
    Calls Ybaf.prog 19 #[.pointer (some ⟨x.ib, 0, none⟩), .int .u64 off, .int .u64 n] w
      fun e w' => e = .returned (.tuple #[.slice none 0 0, .iface 67 (.pointer (some ⟨x.sb, 0, none⟩))]) ∧ Kept x.db (x.fail + 1) w w' := by
  have h1 := h.imS
  have h2 := h.imD
  rw [hm] at h2
  simp only [if_false, Bool.false_eq_true] at h2
  have hk0 := Kept.of_below (k := x.fail) ((Below.refl _ w).alloc (Nat.le_refl _) (.cells (madeCells #[.int .u8 0] n) 5)) h.d1
  have HC := show Hid (∀ W, W = w.alloc (.cells (madeCells #[.int .u8 0] n) 5) → Calls Ybaf.prog 21 #[.pointer (some ⟨x.ib, 0, none⟩), .slice (some ⟨w.heap.size, 0, none⟩) n n, .int .u64 off] W
      fun e w' => e = .returned (.iface 67 (.pointer (some ⟨x.sb, 0, none⟩))) ∧ Kept x.db (x.fail + 1) w w') from
      fun W hW => by rw [hW]; exact (readFile_fail x f off n n _ _ hx hm (h.alloc hx _) (by omega) hn (by omega)).mono fun e w' ⟨h1, h2⟩ => ⟨h1, hk0.trans h2⟩
  have hmk := run_make_row' (P := Ybaf.prog) 22 5 (.int .u8 0) 1 Ybaf.underlying22 Ybaf.info5 rfl .u64 .u64 n (by have := hx.L2; omega) (by have := hx.L2; omega)
  have := hx.L2
  clear h hx hm hk0
  go_enter Ybaf.func19, Ybaf.ntmps19
  go_wp2_with (go_at_call 21; refine (HC.out _ ?_).mono ?_; rfl; rintro e w1 ⟨rfl, hr2⟩)
  all_goals (try go_wp2)
  go_ret2
  exact ⟨rfl, hr2⟩
end Go.Proofs.YbulkdxxmFmt
