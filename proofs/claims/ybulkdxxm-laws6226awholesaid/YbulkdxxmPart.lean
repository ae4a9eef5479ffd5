/-
  Plain mathematics for the law S6226A: a stable partition of indexes, and how far a log that may stop comes. No Go in sight.
-/
namespace Go.Proofs.Ybulkdxxm

/-- Of the first k indexes those whose flag is p, in order. -/
def pick (p : Bool) (ws : List Bool) (k : Nat) : List Int := ((List.range k).filter (fun i => ws.getD i false == p)).map Int.ofNat

theorem pick_zero (p : Bool) (ws : List Bool) : pick p ws 0 = [] := rfl
theorem pick_hit (p : Bool) (ws : List Bool) (k : Nat) (h : ws.getD k false = p) : pick p ws (k + 1) = pick p ws k ++ [(k : Int)] := by
  have e : [k].filter (fun i => ws.getD i false == p) = [k] := by rw [List.filter_cons, if_pos (by rw [h]; simp)]; rfl
  simp only [pick, List.range_succ, List.filter_append, List.map_append, e]
  rfl
theorem pick_miss (p : Bool) (ws : List Bool) (k : Nat) (h : ws.getD k false ≠ p) : pick p ws (k + 1) = pick p ws k := by
  have e : [k].filter (fun i => ws.getD i false == p) = [] := by rw [List.filter_cons, if_neg (by simpa using h)]; rfl
  simp only [pick, List.range_succ, List.filter_append, e, List.append_nil]
theorem pick_le (p : Bool) (ws : List Bool) (k : Nat) : (pick p ws k).length ≤ k := by
  have := List.length_filter_le (fun i => ws.getD i false == p) (List.range k)
  simp at this
  simpa [pick] using this
theorem pick_prefix (p : Bool) (ws : List Bool) (k m : Nat) (h : k ≤ m) : ∃ r, pick p ws m = pick p ws k ++ r := by
  induction m with
  | zero => obtain rfl : k = 0 := by omega
            exact ⟨[], by simp⟩
  | succ m ih =>
    by_cases e : k = m + 1
    · subst e; exact ⟨[], by simp⟩
    · obtain ⟨r, hr⟩ := ih (by omega)
      by_cases hp : ws.getD m false = p
      · exact ⟨r ++ [(m : Int)], by rw [pick_hit p ws m hp, hr, List.append_assoc]⟩
      · exact ⟨r, by rw [pick_miss p ws m hp, hr]⟩

theorem pick_sum (ws : List Bool) (k : Nat) : (pick true ws k).length + (pick false ws k).length = k := by
  induction k with
  | zero => rfl
  | succ k ih =>
    cases h : ws.getD k false
    · rw [pick_hit false ws k h, pick_miss true ws k (by rw [h]; decide)]; simp; omega
    · rw [pick_hit true ws k h, pick_miss false ws k (by rw [h]; decide)]; simp; omega

/-- The writable ones first. -/
def full (ws : List Bool) : List Int := pick true ws ws.length ++ pick false ws ws.length

theorem full_length (ws : List Bool) : (full ws).length = ws.length := by
  have := pick_sum ws ws.length
  simp [full]; omega
theorem full_le (ws : List Bool) : (full ws).length ≤ 2 * ws.length := by
  have h1 := pick_le true ws ws.length
  have h2 := pick_le false ws ws.length
  simp [full]; omega

/-- What a log holds that stops at 'limit' (0: never). -/
def cutTo (limit : Nat) (l : List Int) : List Int := if 0 < limit then l.take limit else l

/-- What has been logged in phase t (0: the writable ones; 1: the others) behind k indexes. -/
def headOf (ws : List Bool) (t : Nat) : List Int := if t = 0 then [] else if t = 1 then pick true ws ws.length else full ws
def seen (ws : List Bool) (t k : Nat) : List Int := headOf ws t ++ pick (t == 0) ws k

theorem seen_zero (ws : List Bool) (t : Nat) : seen ws t 0 = headOf ws t := by simp [seen, pick_zero]
theorem seen_end (ws : List Bool) (t : Nat) (h : t < 2) : seen ws t ws.length = headOf ws (t + 1) := by
  match t, h with
  | 0, _ => simp [seen, headOf]
  | 1, _ => simp [seen, headOf, full]
theorem seen_hit (ws : List Bool) (t k : Nat) (h : ws.getD k false = (t == 0)) : seen ws t (k + 1) = seen ws t k ++ [(k : Int)] := by
  unfold seen; rw [pick_hit _ _ _ h, List.append_assoc]
theorem seen_miss (ws : List Bool) (t k : Nat) (h : ws.getD k false ≠ (t == 0)) : seen ws t (k + 1) = seen ws t k := by
  unfold seen; rw [pick_miss _ _ _ h]
theorem seen_le (ws : List Bool) (t k : Nat) (ht : t < 2) (h : k ≤ ws.length) : (seen ws t k).length ≤ 2 * ws.length := by
  have h1 := pick_le true ws ws.length
  have h2 := pick_le (t == 0) ws k
  unfold seen headOf
  split
  · simp; omega
  · split
    · simp; omega
    · omega
theorem seen_prefix (ws : List Bool) (t k : Nat) (ht : t < 2) (h : k ≤ ws.length) : ∃ r, full ws = seen ws t k ++ r := by
  match t, ht with
  | 0, _ =>
    obtain ⟨r, hr⟩ := pick_prefix true ws k ws.length h
    exact ⟨r ++ pick false ws ws.length, by simp [full, seen, headOf, hr]⟩
  | 1, _ =>
    obtain ⟨r, hr⟩ := pick_prefix false ws k ws.length h
    exact ⟨r, by simp [full, seen, headOf, hr]⟩

/-- The log has stopped. -/
theorem cut_stopped (ws : List Bool) (t k limit : Nat) (ht : t < 2) (h : k < ws.length) (hw : ws.getD k false = (t == 0)) (h0 : 0 < limit) (hl : (seen ws t k).length + 1 = limit) : seen ws t k ++ [(k : Int)] = cutTo limit (full ws) := by
  obtain ⟨r, hr⟩ := seen_prefix ws t (k + 1) ht (by omega)
  rw [seen_hit ws t k hw] at hr
  unfold cutTo
  rw [if_pos h0, hr, List.take_append_of_le_length (by simp; omega), List.take_of_length_le (by simp; omega)]

/-- The log has not stopped. -/
theorem cut_whole (ws : List Bool) (limit : Nat) (h : limit = 0 ∨ (full ws).length < limit) : full ws = cutTo limit (full ws) := by
  unfold cutTo
  split
  · rw [List.take_of_length_le (by omega)]
  · rfl

end Go.Proofs.Ybulkdxxm
