/-
  Plain mathematics for the law S6223B: white space, and how many white bytes stand at a list's head. No Go in sight.
-/
namespace Go.Proofs.YbulkdxvwDoor

def isWs (c : Int) : Bool := c == 32 || (c == 9 || (c == 10 || c == 13))

theorem isWs_yes {c : Int} (h : isWs c = true) : c = 32 ∨ c = 9 ∨ c = 10 ∨ c = 13 := by simpa [isWs] using h
theorem isWs_no {c : Int} (h : isWs c = false) : (c == 32) = false ∧ (c == 9) = false ∧ (c == 10) = false ∧ (c == 13) = false := by
  simpa [isWs] using h

/-- How many white bytes stand at the head. -/
def skip (l : List Int) : Nat := (l.takeWhile isWs).length

theorem skip_nil : skip [] = 0 := rfl
theorem skip_cons_ws (c : Int) (l : List Int) (h : isWs c = true) : skip (c :: l) = skip l + 1 := by
  simp [skip, h]
theorem skip_cons_no (c : Int) (l : List Int) (h : isWs c = false) : skip (c :: l) = 0 := by
  simp [skip, h]
theorem skip_le (l : List Int) : skip l ≤ l.length := by
  induction l with
  | nil => simp [skip]
  | cons c l ih =>
    cases h : isWs c with
    | true => rw [skip_cons_ws c l h]; simp; omega
    | false => rw [skip_cons_no c l h]; simp

/-- The first place at or past 'o' whose byte is no white one. -/
def stopAt (l : List Int) (o : Nat) : Nat := o + skip (l.drop o)

theorem drop_at (l : List Int) (o : Nat) (h : o < l.length) : l.drop o = l.getD o 0 :: l.drop (o + 1) := by
  rw [List.drop_eq_getElem_cons h]; simp [List.getD, h]

theorem stopAt_ws (l : List Int) (o : Nat) (h : o < l.length) (hw : isWs (l.getD o 0) = true) : stopAt l o = stopAt l (o + 1) := by
  unfold stopAt; rw [drop_at l o h, skip_cons_ws _ _ hw]; omega
theorem stopAt_no (l : List Int) (o : Nat) (h : o < l.length) (hw : isWs (l.getD o 0) = false) : stopAt l o = o := by
  unfold stopAt; rw [drop_at l o h, skip_cons_no _ _ hw]; omega
theorem stopAt_past (l : List Int) (o : Nat) (h : l.length ≤ o) : stopAt l o = o := by
  unfold stopAt; rw [List.drop_eq_nil_of_le h]; rfl
theorem stopAt_le (l : List Int) (o : Nat) (h : o ≤ l.length) : stopAt l o ≤ l.length := by
  unfold stopAt; have := skip_le (l.drop o); simp at this; omega
theorem stopAt_ge (l : List Int) (o : Nat) : o ≤ stopAt l o := by unfold stopAt; omega

end Go.Proofs.YbulkdxvwDoor
