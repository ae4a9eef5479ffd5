/-
  Plain mathematics for the law S6224B: scaling by a power of two is exact in the binary format of 64 bits (or comes to an infinity). No Go in sight.
-/
import Ieee.Arith
namespace Go.Proofs.Ybulkdxwk
open Ieee

theorem d_lp : double.leastPlace = -1074 := by decide
theorem d_bin : double.binade = 4503599627370496 := by decide
theorem d_inf : double.infRung = 9218868437227405312 := by decide
theorem d_sw : double.signWeight = 9223372036854775808 := by decide

theorem p52 : (2 : Nat) ^ 52 = 4503599627370496 := by decide
theorem p53 : (2 : Nat) ^ 53 = 9007199254740992 := by decide

/-- What a word of a sign and a rung reads as. -/
theorem read_word (neg : Bool) (r : Nat) (h : r < 9223372036854775808) : double.read (double.word neg r) =
    if r < 4503599627370496 then .number neg r (-1074) else if r < 9218868437227405312 then .number neg (4503599627370496 + r % 4503599627370496) (-1074 + ((r / 4503599627370496 - 1 : Nat) : Int))
    else if r = 9218868437227405312 then .infinity neg else .nan neg (r - 9218868437227405312) := by
  unfold Format.read Format.word
  rw [d_lp, d_bin, d_inf, d_sw]
  cases neg
  · have e1 : r / 9223372036854775808 = 0 := Nat.div_eq_of_lt h
    have e2 : r % 9223372036854775808 = r := Nat.mod_eq_of_lt h
    simp [e1, e2]
  · have e1 : (9223372036854775808 + r) / 9223372036854775808 = 1 := by omega
    have e2 : (9223372036854775808 + r) % 9223372036854775808 = r := by omega
    simp [e1, e2]

/-- Nothing is dropped. -/
theorem cut_zero (neg : Bool) (n : Nat) : Toward.even.cut neg n 0 = n := by
  simp [Toward.cut, Nat.mod_one]

/-- What is dropped is noughts alone. -/
theorem cut_exact (neg : Bool) (a g : Nat) (ha : 0 < a) : Toward.even.cut neg (a * 2 ^ g) g = a := by
  have hn : a * 2 ^ g ≠ 0 := by have := Nat.two_pow_pos g; exact Nat.ne_of_gt (Nat.mul_pos ha this)
  have hl : g ≤ (a * 2 ^ g).log2 := (Nat.le_log2 hn).2 (Nat.le_mul_of_pos_left _ ha)
  have hg : min g ((a * 2 ^ g).log2 + 2) = g := by omega
  unfold Toward.cut
  dsimp only
  rw [hg, Nat.one_shiftLeft, Nat.mul_div_cancel _ (Nat.two_pow_pos g), Nat.mul_mod_left]
  have hp := Nat.two_pow_pos g
  have h1 : ¬ 2 ^ g < 2 * 0 := by omega
  have h2 : (2 ^ g == 2 * 0) = false := by simp
  simp

/-- A number whose digits fit is written as it is, or comes to an infinity: 'k': its last digit's place, counted from the least one. -/
theorem read_nearest (neg : Bool) (m z k : Nat) (p : Int) (hm0 : 0 < m) (hm : m < 2 ^ 53) (hk : p + z = (k : Int) - 1074) :
    (∃ m' k' : Nat, double.read (double.nearest neg (m * 2 ^ z) p) = .number neg m' ((k' : Int) - 1074) ∧ m' * 2 ^ k' = m * 2 ^ k ∧ 0 < m' ∧ m' < 2 ^ 53 ∧ k ≤ k' + 52) ∨
    (double.read (double.nearest neg (m * 2 ^ z) p) = .infinity neg ∧ ∃ j, 2046 ≤ j ∧ 2 ^ (52 + j) ≤ m * 2 ^ k) := by
  have hne : m * 2 ^ z ≠ 0 := Nat.ne_of_gt (Nat.mul_pos hm0 (Nat.two_pow_pos z))
  have hm0' : m ≠ 0 := by omega
  obtain ⟨L, hL⟩ : ∃ L, L = m.log2 := ⟨_, rfl⟩
  obtain ⟨hL1, hL2⟩ := (Nat.log2_eq_iff hm0').1 hL.symm
  have hL52 : L ≤ 52 := by
    rcases Nat.lt_or_ge 52 L with h | h
    · have : 2 ^ 53 ≤ 2 ^ L := Nat.pow_le_pow_right (by omega) (by omega)
      omega
    · exact h
  have hlog : (m * 2 ^ z).log2 = L + z := by
    refine (Nat.log2_eq_iff hne).2 ⟨?_, ?_⟩
    · rw [Nat.pow_add]; exact Nat.mul_le_mul_right _ hL1
    · rw [show L + z + 1 = (L + 1) + z by omega, Nat.pow_add]; exact Nat.mul_lt_mul_of_pos_right hL2 (Nat.two_pow_pos z)
  obtain ⟨la, hla⟩ : ∃ la, la = k + L - 52 := ⟨_, rfl⟩
  have hlk : la ≤ k := by omega
  obtain ⟨d, hd⟩ : ∃ d, d = k - la := ⟨_, rfl⟩
  have hlast : max (p + ((m * 2 ^ z).log2 : Int) - (double.fractionBits : Int)) double.leastPlace = (la : Int) - 1074 := by
    rw [hlog, d_lp, show double.fractionBits = 52 from rfl]
    omega
  -- what is kept
  have hkept : Toward.even.cut neg ((m * 2 ^ z) <<< (p - ((la : Int) - 1074)).toNat) (((la : Int) - 1074) - p).toNat = m * 2 ^ d := by
    by_cases hdz : z ≤ d
    · rw [show (p - ((la : Int) - 1074)).toNat = d - z by omega, show (((la : Int) - 1074) - p).toNat = 0 by omega, cut_zero, Nat.shiftLeft_eq, Nat.mul_assoc, ← Nat.pow_add, show z + (d - z) = d by omega]
    · rw [show (p - ((la : Int) - 1074)).toNat = 0 by omega, show (((la : Int) - 1074) - p).toNat = z - d by omega, Nat.shiftLeft_zero]
      have e : m * 2 ^ z = (m * 2 ^ d) * 2 ^ (z - d) := by rw [Nat.mul_assoc, ← Nat.pow_add, show d + (z - d) = z by omega]
      rw [e]
      exact cut_exact neg _ _ (Nat.mul_pos hm0 (Nat.two_pow_pos d))
  have hnear : double.nearest neg (m * 2 ^ z) p = double.word neg (min (la * 4503599627370496 + m * 2 ^ d) 9218868437227405312) := by
    unfold Format.nearest
    rw [if_neg hne]
    dsimp only
    rw [hlast, hkept, d_lp, d_bin, d_inf, show ((la : Int) - 1074 - -1074).toNat = la by omega]
  obtain ⟨K, hK⟩ : ∃ K, K = m * 2 ^ d := ⟨_, rfl⟩
  have hKpos : 0 < K := by rw [hK]; exact Nat.mul_pos hm0 (Nat.two_pow_pos d)
  have hKk : K * 2 ^ la = m * 2 ^ k := by rw [hK, Nat.mul_assoc, ← Nat.pow_add, show d + la = k by omega]
  rw [← hK] at hnear
  rw [hnear]
  by_cases hc : 52 ≤ k + L
  · have hd' : d = 52 - L := by omega
    have hK1 : 4503599627370496 ≤ K := by
      have : 2 ^ L * 2 ^ d ≤ m * 2 ^ d := Nat.mul_le_mul_right _ hL1
      rw [← Nat.pow_add, show L + d = 52 by omega, p52] at this
      omega
    have hK2 : K < 9007199254740992 := by
      have : m * 2 ^ d < 2 ^ (L + 1) * 2 ^ d := Nat.mul_lt_mul_of_pos_right hL2 (Nat.two_pow_pos d)
      rw [← Nat.pow_add, show L + 1 + d = 53 by omega, p53] at this
      omega
    by_cases hov : la * 4503599627370496 + K < 9218868437227405312
    · left
      rw [Nat.min_eq_left (by omega), read_word _ _ (by omega), if_neg (by omega), if_pos hov]
      refine ⟨K, la, ?_, hKk, hKpos, by rw [p53]; omega, by omega⟩
      rw [show 4503599627370496 + (la * 4503599627370496 + K) % 4503599627370496 = K by omega, show (la * 4503599627370496 + K) / 4503599627370496 - 1 = la by omega]
      congr 1
    · right
      rw [Nat.min_eq_right (by omega), read_word _ _ (by omega), if_neg (by omega), if_neg (by omega), if_pos rfl]
      refine ⟨rfl, la, by omega, ?_⟩
      rw [← hKk, Nat.pow_add, p52]
      exact Nat.mul_le_mul_right _ hK1
  · left
    obtain rfl : la = 0 := by omega
    have hd' : d = k := by omega
    have hK2 : K < 4503599627370496 := by
      have h1 : m * 2 ^ d < 2 ^ (L + 1) * 2 ^ d := Nat.mul_lt_mul_of_pos_right hL2 (Nat.two_pow_pos d)
      have h2 : 2 ^ (L + 1) * 2 ^ d ≤ 2 ^ 52 := by rw [← Nat.pow_add]; exact Nat.pow_le_pow_right (by omega) (by omega)
      rw [p52] at h2
      omega
    rw [Nat.min_eq_left (by omega), read_word _ _ (by omega), if_pos (by omega)]
    refine ⟨0 * 4503599627370496 + K, 0, by simp, by simpa using hKk, by omega, by rw [p53]; omega, by omega⟩

/-- 2 to the 31st. -/
def cW : Nat := 4746794007248502784
theorem read_c : double.read cW = .number false 4503599627370496 (-21) := by decide

theorem signed_mul (s : Bool) (m a b : Nat) : signed s m (a + b) = signed s m a * ((2 ^ b : Nat) : Int) := by
  unfold signed
  rw [Nat.shiftLeft_eq, Nat.shiftLeft_eq, Nat.pow_add, ← Nat.mul_assoc]
  cases s
  · simp
  · simp [Int.neg_mul]

theorem cmp_lt (a b : Int) : (some (compare a b) == some Ordering.lt) = decide (a < b) := by
  by_cases h : a < b
  · rw [Int.compare_eq_lt.2 h]; simp [h]
  · have : compare a b ≠ .lt := fun e => h (Int.compare_eq_lt.1 e)
    simp [h, this]

/-- '<' between two numbers, both read from the least place. -/
theorem lt_number (s t : Bool) (m n i j : Nat) : ((Datum.number s m ((i : Int) - 1074)).order (.number t n ((j : Int) - 1074)) == some .lt) = decide (signed s m i < signed t n j) := by
  unfold Datum.order
  dsimp only
  rw [cmp_lt]
  rcases Nat.le_total i j with h | h
  · rw [show ((i : Int) - 1074 - min ((i : Int) - 1074) ((j : Int) - 1074)).toNat = 0 by omega, show ((j : Int) - 1074 - min ((i : Int) - 1074) ((j : Int) - 1074)).toNat = j - i by omega]
    have e1 : signed s m i = signed s m 0 * ((2 ^ i : Nat) : Int) := by rw [← signed_mul, Nat.zero_add]
    have e2 : signed t n j = signed t n (j - i) * ((2 ^ i : Nat) : Int) := by rw [← signed_mul, Nat.sub_add_cancel h]
    rw [e1, e2]
    have hp : (0 : Int) < ((2 ^ i : Nat) : Int) := Int.natCast_pos.2 (Nat.two_pow_pos i)
    simp only [Int.mul_lt_mul_right hp]
  · rw [show ((i : Int) - 1074 - min ((i : Int) - 1074) ((j : Int) - 1074)).toNat = i - j by omega, show ((j : Int) - 1074 - min ((i : Int) - 1074) ((j : Int) - 1074)).toNat = 0 by omega]
    have e1 : signed s m i = signed s m (i - j) * ((2 ^ j : Nat) : Int) := by rw [← signed_mul, Nat.sub_add_cancel h]
    have e2 : signed t n j = signed t n 0 * ((2 ^ j : Nat) : Int) := by rw [← signed_mul, Nat.zero_add]
    rw [e1, e2]
    have hp : (0 : Int) < ((2 ^ j : Nat) : Int) := Int.natCast_pos.2 (Nat.two_pow_pos j)
    simp only [Int.mul_lt_mul_right hp]

/-- How far the least place lies below the units (kept behind a name: nobody is to reckon the power). -/
def lpN : Nat := 1074
theorem lpN_eq : lpN = 1074 := rfl

/-- What a small whole number is written as. -/
theorem read_small (v : Nat) (hv : v < 2147483648) : ∃ m k : Nat, double.read (double.nearest false v 0) = .number false m ((k : Int) - 1074) ∧ m * 2 ^ k = v * 2 ^ lpN ∧ m < 2 ^ 53 ∧ (m ≠ 0 → 1022 ≤ k) := by
  by_cases h0 : v = 0
  · subst h0
    refine ⟨0, 0, ?_, by simp, by decide, fun h => absurd rfl h⟩
    rw [show double.nearest false 0 0 = double.word false 0 from rfl, read_word _ _ (by decide)]
    rfl
  · rcases read_nearest false v 0 lpN 0 (by omega) (by rw [p53]; omega) (by have := lpN_eq; omega) with ⟨m, k, h1, h2, h3, h4, h5⟩ | ⟨_, j, hj, hle⟩
    · rw [Nat.pow_zero, Nat.mul_one] at h1
      exact ⟨m, k, h1, h2, h4, fun _ => by have := lpN_eq; omega⟩
    · exfalso
      have h1 : v * 2 ^ lpN < 2 ^ 31 * 2 ^ lpN := Nat.mul_lt_mul_of_pos_right (by omega) (Nat.two_pow_pos _)
      rw [← Nat.pow_add] at h1
      have h2 : 2 ^ (31 + lpN) ≤ 2 ^ (52 + j) := Nat.pow_le_pow_right (by omega) (by have := lpN_eq; omega)
      omega

/-- .. and divided by 2 to the 31st. -/
theorem div_small (x m k : Nat) (hx : double.read x = .number false m ((k : Int) - 1074)) (hm : m < 2 ^ 53) (hk : m ≠ 0 → 1022 ≤ k) (hsm : m * 2 ^ k < 2 ^ (31 + lpN)) :
    ∃ d m' k' : Nat, double.div x cW = some d ∧ double.read d = .number false m' ((k' : Int) - 1074) ∧ m' * 2 ^ k' * 2 ^ 31 = m * 2 ^ k := by
  unfold Format.div
  rw [hx, read_c]
  unfold Datum.quotient
  dsimp only
  rw [if_neg (by decide), show double.fractionBits = 52 from rfl, show Nat.log2 4503599627370496 = 52 by decide]
  by_cases h0 : m = 0
  · subst h0
    refine ⟨_, 0, 0, rfl, ?_, by simp⟩
    have e : 2 * (0 <<< (52 + 2 + 52 - Nat.log2 0) / 4503599627370496) + (0 <<< (52 + 2 + 52 - Nat.log2 0) % 4503599627370496 != 0).toNat = 0 := by simp
    rw [e]
    show double.read (double.nearest _ 0 _) = _
    unfold Format.nearest
    rw [if_pos rfl]
    rw [show (false ^^ false) = false from rfl, read_word _ _ (by decide)]
    rfl
  · have hk := hk h0
    obtain ⟨L, hL⟩ : ∃ L, L = m.log2 := ⟨_, rfl⟩
    obtain ⟨hL1, hL2⟩ := (Nat.log2_eq_iff h0).1 hL.symm
    have hL52 : L ≤ 52 := by
      rcases Nat.lt_or_ge 52 L with h | h
      · have : 2 ^ 53 ≤ 2 ^ L := Nat.pow_le_pow_right (by omega) (by omega)
        omega
      · exact h
    rw [← hL, Nat.shiftLeft_eq]
    have e1 : m * 2 ^ (52 + 2 + 52 - L) = m * 2 ^ (54 - L) * 4503599627370496 := by
      rw [← p52, Nat.mul_assoc, ← Nat.pow_add, show 54 - L + 52 = 52 + 2 + 52 - L by omega]
    rw [e1, Nat.mul_div_cancel _ (by decide), Nat.mul_mod_left]
    have e2 : 2 * (m * 2 ^ (54 - L)) + ((0 : Nat) != 0).toNat = m * 2 ^ (55 - L) := by
      rw [show 55 - L = 54 - L + 1 by omega, Nat.pow_succ]
      simp
      rw [Nat.mul_left_comm, Nat.mul_comm 2]
    rw [e2]
    have hp : ((k : Int) - 1074 - -21 - ((52 + 2 + 52 - L : Nat) : Int) - 1) + ((55 - L : Nat) : Int) = ((k - 31 : Nat) : Int) - 1074 := by omega
    rcases read_nearest false m (55 - L) (k - 31) _ (by omega) hm hp with ⟨m', k', h1, h2, _, _, _⟩ | ⟨_, j, hj, hle⟩
    · refine ⟨_, m', k', rfl, h1, ?_⟩
      rw [h2, Nat.mul_assoc, ← Nat.pow_add, show k - 31 + 31 = k by omega]
    · exfalso
      have h1 : m * 2 ^ (k - 31) ≤ m * 2 ^ k := Nat.mul_le_mul_left _ (Nat.pow_le_pow_right (by omega) (by omega))
      have h2 : 2 ^ (31 + lpN) ≤ 2 ^ (52 + j) := Nat.pow_le_pow_right (by omega) (by have := lpN_eq; omega)
      omega

/-- A number read off a word: its digits fit, its place is counted from the least one. -/
theorem read_number {q : Nat} {s : Bool} {n : Nat} {e : Int} (h : double.read q = .number s n e) : n < 2 ^ 53 ∧ ∃ j : Nat, e = (j : Int) - 1074 := by
  unfold Format.read at h
  rw [d_lp, d_bin, d_inf, d_sw] at h
  dsimp only at h
  rw [p53]
  split at h
  · cases h
    exact ⟨by omega, 0, by omega⟩
  · split at h
    · injection h with _ h2 h3
      refine ⟨by omega, q % 9223372036854775808 / 4503599627370496 - 1, ?_⟩
      rw [← h3]
      omega
    · split at h <;> cases h

theorem read_infinity (s : Bool) : double.read (double.word s 9218868437227405312) = .infinity s := by
  rw [read_word _ _ (by decide)]; rfl

theorem signed_false_nonneg (m k : Nat) : 0 ≤ signed false m k := by unfold signed; simp only [Bool.false_eq_true, if_false]; exact Int.natCast_nonneg _
theorem signed_true_nonpos (m k : Nat) : signed true m k ≤ 0 := by unfold signed; simp only [if_true]; exact Int.neg_nonpos_of_nonneg (Int.natCast_nonneg _)

/-- THE LAW: 'v / 2^31 < q' as 'v < q * 2^31', for every word q. -/
theorem scale_law (v : Nat) (hv : v < 2147483648) (q : Nat) : ∃ d, double.div (double.nearest false v 0) cW = some d ∧
    (∀ r, double.mul q cW = some r → (double.order (double.nearest false v 0) r == some .lt) = (double.order d q == some .lt)) ∧
    (double.mul q cW = none → (double.order d q == some .lt) = false) := by
  obtain ⟨m, k, hx, hxk, hm, hk⟩ := read_small v hv
  have hsm : m * 2 ^ k < 2 ^ (31 + lpN) := by
    rw [hxk, Nat.pow_add]; exact Nat.mul_lt_mul_of_pos_right (by omega) (Nat.two_pow_pos _)
  obtain ⟨d, md, kd, hdiv, hd, hdk⟩ := div_small _ m k hx hm hk hsm
  refine ⟨d, hdiv, ?_⟩
  unfold Format.order Format.mul
  rw [hx, hd, read_c]
  cases hq : double.read q with
  | nan s t =>
    refine ⟨fun r hr => by simp [Datum.product] at hr, fun _ => ?_⟩
    simp [Datum.order]
  | infinity s =>
    refine ⟨fun r hr => ?_, fun hr => by simp [Datum.product] at hr⟩
    simp only [Datum.product] at hr
    rw [if_neg (by decide)] at hr
    simp only [Option.map_some, Option.some.injEq, Bool.xor_false, Format.write, d_inf] at hr
    rw [← hr, read_infinity]
    simp [Datum.order]
  | number s n e =>
    obtain ⟨hn, j, rfl⟩ := read_number hq
    refine ⟨fun r hr => ?_, fun hr => by simp [Datum.product] at hr⟩
    simp only [Datum.product, Option.map_some, Option.some.injEq, Bool.xor_false, Format.write] at hr
    rw [lt_number]
    by_cases h0 : n = 0
    · subst h0
      have er : double.read r = .number s 0 (((0 : Nat) : Int) - 1074) := by
        rw [← hr]
        unfold Format.nearest
        rw [if_pos (by simp), read_word _ _ (by decide)]
        rfl
      rw [er, lt_number]
      have h1 := signed_false_nonneg m k
      have h2 := signed_false_nonneg md kd
      have z1 : signed s 0 0 = 0 := by cases s <;> simp [signed]
      have z2 : signed s 0 j = 0 := by cases s <;> simp [signed]
      rw [z1, z2]
      rw [decide_eq_false (by omega), decide_eq_false (by omega)]
    · have hp : ((j : Int) - 1074 + -21) + ((52 : Nat) : Int) = ((j + 31 : Nat) : Int) - 1074 := by omega
      rw [← p52] at hr
      rcases read_nearest s n 52 (j + 31) _ (by omega) hn hp with ⟨n', k', h1, h2, _, _, _⟩ | ⟨h1, jj, hjj, hle⟩
      · rw [hr] at h1
        rw [h1, lt_number]
        cases s
        · unfold signed
          simp only [Bool.false_eq_true, if_false, Nat.shiftLeft_eq]
          have e1 : m * 2 ^ k < n' * 2 ^ k' ↔ md * 2 ^ kd < n * 2 ^ j := by
            rw [← hdk, h2, Nat.pow_add, ← Nat.mul_assoc]
            exact Nat.mul_lt_mul_right (by decide)
          simp only [Int.ofNat_lt, e1]
        · have h3 := signed_false_nonneg m k
          have h4 := signed_false_nonneg md kd
          have h5 := signed_true_nonpos n' k'
          have h6 := signed_true_nonpos n j
          rw [decide_eq_false (by omega), decide_eq_false (by omega)]
      · rw [hr] at h1
        rw [h1]
        cases s
        · have e1 : md * 2 ^ kd < n * 2 ^ j := by
            have h3 : 2 ^ (31 + lpN) ≤ 2 ^ (52 + jj) := Nat.pow_le_pow_right (by omega) (by have := lpN_eq; omega)
            have h4 : md * 2 ^ kd * 2 ^ 31 < n * 2 ^ j * 2 ^ 31 := by
              rw [hdk, Nat.mul_assoc, ← Nat.pow_add]
              omega
            exact (Nat.mul_lt_mul_right (by decide)).1 h4
          unfold signed
          simp only [Bool.false_eq_true, if_false, Nat.shiftLeft_eq, Int.ofNat_lt, e1, decide_true]
          simp [Datum.order]
        · have h4 := signed_false_nonneg md kd
          have h6 := signed_true_nonpos n j
          rw [decide_eq_false (by omega)]
          simp [Datum.order]

/-- A NaN that the tape gives is no number: nothing is less than it. -/
theorem nan_drawn (x t : Nat) : (double.order x ((t % 2) * 2 ^ 63 + 0x7ff0000000000000 + 1 + (t / 2) % (2 ^ 52 - 1)) == some .lt) = false := by
  have hr : double.read ((t % 2) * 2 ^ 63 + 0x7ff0000000000000 + 1 + (t / 2) % (2 ^ 52 - 1)) = .nan (t % 2 == 1) (1 + (t / 2) % (2 ^ 52 - 1)) := by
    have h : (t % 2) * 2 ^ 63 + 0x7ff0000000000000 + 1 + (t / 2) % (2 ^ 52 - 1) = double.word (t % 2 == 1) (0x7ff0000000000000 + 1 + (t / 2) % (2 ^ 52 - 1)) := by
      unfold Format.word
      rw [d_sw]
      rcases Nat.mod_two_eq_zero_or_one t with e | e <;> rw [e] <;> simp <;> omega
    have hlt : (t / 2) % (2 ^ 52 - 1) < 2 ^ 52 - 1 := Nat.mod_lt _ (by decide)
    generalize (t / 2) % (2 ^ 52 - 1) = u at *
    rw [p52] at hlt
    rw [h, read_word _ _ (by omega), if_neg (by omega), if_neg (by omega), if_neg (by omega)]
    rw [Nat.add_assoc, Nat.add_sub_cancel_left]
  unfold Format.order
  rw [hr]
  cases double.read x <;> simp [Datum.order]

end Go.Proofs.Ybulkdxwk
