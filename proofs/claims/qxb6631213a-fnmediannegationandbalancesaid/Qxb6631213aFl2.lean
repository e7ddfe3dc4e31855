/-
  Seat b6631213a. Rounding in whole numbers: the nearest word lies on the same side of every word as the exact number; negation.
-/
import Derived.Test.Qxb6631213aFl1
namespace Go.Proofs.Qxb6631213a
open Ieee

theorem word_nought (s : Bool) : rung (double.word s 0) = 0 := by cases s <;> rfl

theorem cut_le (neg : Bool) (n drop k : Nat) (h : n ≤ k * 2 ^ drop) : Toward.even.cut neg n drop ≤ k := by
  unfold Toward.cut
  simp only [Nat.one_shiftLeft]
  rcases Nat.le_total drop (n.log2 + 2) with hd | hd
  · rw [Nat.min_eq_left hd]
    have hg : 0 < 2 ^ drop := Nat.two_pow_pos _
    generalize 2 ^ drop = g at h hg ⊢
    have e := Nat.div_add_mod n g
    by_cases hr : n % g = 0
    · have : (decide (g < 2 * (n % g)) || (g == 2 * (n % g) && n / g % 2 == 1)) = false := by
        rw [hr]; simp; omega
      rw [this]
      have : n / g ≤ k := Nat.div_le_of_le_mul (by rw [Nat.mul_comm]; exact h)
      simpa using this
    · have h2 : n / g < k := by
        rw [Nat.div_lt_iff_lt_mul hg]
        rcases Nat.lt_or_eq_of_le h with h3 | h3
        · exact h3
        · exact absurd (by rw [h3]; exact Nat.mul_mod_left _ _) hr
      have : ∀ b : Bool, b.toNat ≤ 1 := fun b => by cases b <;> simp
      have := this (decide (g < 2 * (n % g)) || (g == 2 * (n % g) && n / g % 2 == 1))
      omega
  · rw [Nat.min_eq_right hd]
    have h1 : n < 2 ^ (n.log2 + 1) := Nat.lt_log2_self
    have h2 : 2 ^ (n.log2 + 2) = 2 * 2 ^ (n.log2 + 1) := by rw [Nat.pow_succ]; omega
    generalize 2 ^ (n.log2 + 1) = g at h1 h2
    rw [h2, Nat.div_eq_of_lt (by omega), Nat.mod_eq_of_lt (by omega)]
    have : (decide (2 * g < 2 * n) || (2 * g == 2 * n && 0 % 2 == 1)) = false := by simp; omega
    rw [this]
    simp

theorem le_cut (neg : Bool) (n drop k : Nat) (h : k * 2 ^ drop ≤ n) : k ≤ Toward.even.cut neg n drop := by
  unfold Toward.cut
  simp only [Nat.one_shiftLeft]
  rcases Nat.le_total drop (n.log2 + 2) with hd | hd
  · rw [Nat.min_eq_left hd]
    have hg : 0 < 2 ^ drop := Nat.two_pow_pos _
    have : k ≤ n / 2 ^ drop := (Nat.le_div_iff_mul_le hg).2 h
    omega
  · have h1 : n < 2 ^ (n.log2 + 1) := Nat.lt_log2_self
    have h2 : 2 ^ (n.log2 + 1) ≤ 2 ^ drop := Nat.pow_le_pow_right (by decide) (by omega)
    have : k = 0 := by
      rcases Nat.eq_zero_or_pos k with h0 | h0
      · exact h0
      · have : 1 * 2 ^ drop ≤ k * 2 ^ drop := Nat.mul_le_mul_right _ h0
        omega
    rw [this]
    exact Nat.zero_le _

/-- The value of a rung that is written as binades and a significand. -/
theorem rungVal_made (q kept : Nat) (h2 : kept ≤ 9007199254740992) (h1 : q = 0 ∨ 4503599627370496 ≤ kept) : rungVal (q * 4503599627370496 + kept) = kept * 2 ^ q := by
  unfold rungVal
  by_cases hk : kept < 4503599627370496
  · obtain rfl : q = 0 := by omega
    rw [if_pos (by omega)]; simp
  · by_cases hk2 : kept = 9007199254740992
    · subst hk2
      rw [if_neg (by omega), show (q * 4503599627370496 + 9007199254740992) % 4503599627370496 = 0 by omega, show (q * 4503599627370496 + 9007199254740992) / 4503599627370496 - 1 = q + 1 by omega, Nat.pow_succ]
      omega
    · rw [if_neg (by omega), show (q * 4503599627370496 + kept) % 4503599627370496 = kept - 4503599627370496 by omega, show (q * 4503599627370496 + kept) / 4503599627370496 - 1 = q by omega, show 4503599627370496 + (kept - 4503599627370496) = kept by omega]

/-- A rung's value is a multiple of 2 ^ q, or lies below the binade there. -/
theorem rungVal_mult (r q : Nat) : (∃ p, rungVal r = p * 2 ^ q) ∨ (0 < q ∧ rungVal r < 4503599627370496 * 2 ^ q) := by
  rcases Nat.eq_zero_or_pos q with rfl | hq
  · exact .inl ⟨rungVal r, by simp⟩
  · unfold rungVal
    by_cases h : r < 4503599627370496
    · rw [if_pos h]
      refine .inr ⟨hq, ?_⟩
      have : 1 ≤ 2 ^ q := Nat.one_le_two_pow
      have : 4503599627370496 * 1 ≤ 4503599627370496 * 2 ^ q := Nat.mul_le_mul_left _ this
      omega
    · rw [if_neg h]
      rcases Nat.lt_or_ge (r / 4503599627370496 - 1) q with h1 | h1
      · refine .inr ⟨hq, ?_⟩
        have e1 : (4503599627370496 + r % 4503599627370496) * 2 ^ (r / 4503599627370496 - 1) < 9007199254740992 * 2 ^ (r / 4503599627370496 - 1) := Nat.mul_lt_mul_of_pos_right (by omega) (Nat.two_pow_pos _)
        have e2 : 2 ^ (r / 4503599627370496 - 1 + 1) ≤ 2 ^ q := Nat.pow_le_pow_right (by decide) h1
        rw [Nat.pow_succ] at e2
        omega
      · obtain ⟨j, hj⟩ := Nat.le.dest h1
        refine .inl ⟨(4503599627370496 + r % 4503599627370496) * 2 ^ j, ?_⟩
        rw [← hj, Nat.pow_add, Nat.mul_assoc, Nat.mul_comm (2 ^ j)]

/-- The rung that 'nearest' finds, before infinity bounds it. -/
theorem nearest_parts (s : Bool) (mag : Nat) (place : Int) (h0 : mag ≠ 0) : ∃ (q kept up down : Nat),
    double.nearest s mag place = double.word s (min (q * 4503599627370496 + kept) infR) ∧ kept = Toward.even.cut s (mag * 2 ^ up) down ∧ place + 1074 + down = q + up ∧ (up = 0 ∨ down = 0) ∧
    (0 < q → 4503599627370496 * 2 ^ down ≤ mag * 2 ^ up) ∧ mag * 2 ^ up ≤ 9007199254740992 * 2 ^ down := by
  have hl : double.leastPlace = -1074 := by decide
  have hf : double.fractionBits = 52 := rfl
  have hb : double.binade = 4503599627370496 := by decide
  have hi : double.infRung = infR := by decide
  have m1 : 2 ^ mag.log2 ≤ mag := Nat.log2_self_le h0
  have m2 : mag < 2 ^ (mag.log2 + 1) := Nat.lt_log2_self
  generalize hL : mag.log2 = L at m1 m2
  obtain ⟨q, hq⟩ : ∃ q : Nat, max (place + L - 52) (-1074) = (q : Int) - 1074 := ⟨(max (place + L - 52) (-1074) + 1074).toNat, by omega⟩
  have e : double.nearest s mag place = double.word s (min (q * 4503599627370496 + Toward.even.cut s (mag <<< (place - ((q : Int) - 1074)).toNat) (((q : Int) - 1074) - place).toNat) infR) := by
    unfold Format.nearest
    rw [if_neg h0]
    simp only [hl, hf, hb, hi, hL]
    rw [show ((52 : Nat) : Int) = 52 from rfl, hq]
    rw [show ((q : Int) - 1074 - -1074).toNat = q by omega]
  rw [Nat.shiftLeft_eq] at e
  refine ⟨q, _, (place - ((q : Int) - 1074)).toNat, (((q : Int) - 1074) - place).toNat, e, rfl, by omega, by omega, ?_, ?_⟩
  · intro hq0
    have hq2 : place + L - 52 = (q : Int) - 1074 := by omega
    rcases Int.le_total place ((q : Int) - 1074) with h | h
    · rw [show (place - ((q : Int) - 1074)).toNat = 0 by omega, show (((q : Int) - 1074) - place).toNat = L - 52 by omega, Nat.pow_zero, Nat.mul_one]
      have : 2 ^ L = 4503599627370496 * 2 ^ (L - 52) := by
        rw [show (4503599627370496 : Nat) = 2 ^ 52 from rfl, ← Nat.pow_add, show 52 + (L - 52) = L by omega]
      omega
    · rw [show (((q : Int) - 1074) - place).toNat = 0 by omega, show (place - ((q : Int) - 1074)).toNat = 52 - L by omega, Nat.pow_zero, Nat.mul_one]
      have : 4503599627370496 = 2 ^ L * 2 ^ (52 - L) := by
        rw [show (4503599627370496 : Nat) = 2 ^ 52 from rfl, ← Nat.pow_add, show L + (52 - L) = 52 by omega]
      rw [this]
      exact Nat.mul_le_mul_right _ m1
  · rcases Int.le_total place ((q : Int) - 1074) with h | h
    · rw [show (place - ((q : Int) - 1074)).toNat = 0 by omega, Nat.pow_zero, Nat.mul_one]
      have h5 : L + 1 ≤ 53 + (((q : Int) - 1074) - place).toNat := by omega
      have := Nat.pow_le_pow_right (n := 2) (by decide) h5
      rw [Nat.pow_add 2 53] at this
      have h6 : (2 : Nat) ^ 53 = 9007199254740992 := rfl
      rw [h6] at this
      omega
    · rw [show (((q : Int) - 1074) - place).toNat = 0 by omega, Nat.pow_zero, Nat.mul_one]
      have h5 : L + 1 + (place - ((q : Int) - 1074)).toNat ≤ 53 := by omega
      have := Nat.pow_le_pow_right (n := 2) (by decide) h5
      rw [Nat.pow_add] at this
      have h6 : (2 : Nat) ^ 53 = 9007199254740992 := rfl
      rw [h6] at this
      have h7 : mag * 2 ^ (place - ((q : Int) - 1074)).toNat ≤ 2 ^ (L + 1) * 2 ^ (place - ((q : Int) - 1074)).toNat := Nat.mul_le_mul_right _ (by omega)
      omega

theorem rung_word (s : Bool) {r : Nat} (h : r ≤ infR) : rung (double.word s r) = r ∧ sgn (double.word s r) = s := by
  have hw : double.signWeight = 9223372036854775808 := by decide
  unfold infR at h
  cases s
  · simp only [Format.word, Bool.false_eq_true, if_false, rung, sgn]
    refine ⟨by omega, ?_⟩
    rw [Nat.div_eq_of_lt (by omega)]; rfl
  · simp only [Format.word, if_true, hw, rung, sgn]
    refine ⟨by omega, ?_⟩
    rw [show (9223372036854775808 + r) / 9223372036854775808 = 1 by omega]; rfl

theorem nearest_word (s : Bool) (mag : Nat) (place : Int) : ∃ R, R ≤ infR ∧ (∀ t, double.nearest t mag place = double.word t R) ∧ (mag = 0 → R = 0) := by
  by_cases h0 : mag = 0
  · refine ⟨0, Nat.zero_le _, fun t => by simp [Format.nearest, h0], fun _ => rfl⟩
  · have hi : double.infRung = infR := by decide
    refine ⟨min ((max (place + mag.log2 - double.fractionBits) double.leastPlace - double.leastPlace).toNat * double.binade + Toward.even.cut s (mag <<< (place - max (place + mag.log2 - double.fractionBits) double.leastPlace).toNat) (max (place + mag.log2 - double.fractionBits) double.leastPlace - place).toNat) infR, Nat.min_le_right _ _, fun t => ?_, fun h => absurd h h0⟩
    unfold Format.nearest
    rw [if_neg h0, hi]
    rfl

/-- The nearest word is not above a word that the number is not above. -/
theorem nearest_le (s : Bool) (mag : Nat) (place : Int) (r k E : Nat) (hE : place + 1074 + k = E) (h : mag * 2 ^ E ≤ rungVal r * 2 ^ k) : rung (double.nearest s mag place) ≤ r := by
  by_cases h0 : mag = 0
  · rw [show double.nearest s mag place = double.word s 0 by simp [Format.nearest, h0], word_nought]; exact Nat.zero_le _
  obtain ⟨q, kept, up, down, e1, e2, e3, e4, e5, e6⟩ := nearest_parts s mag place h0
  rw [e1, (rung_word s (Nat.min_le_right _ _)).1]
  have hk2 : kept ≤ 9007199254740992 := by rw [e2]; exact cut_le _ _ _ _ e6
  have hk1 : q = 0 ∨ 4503599627370496 ≤ kept := by
    rcases Nat.eq_zero_or_pos q with hq | hq
    · exact .inl hq
    · right; rw [e2]; exact le_cut _ _ _ _ (e5 hq)
  refine Nat.le_trans (Nat.min_le_left _ _) (rungVal_le.1 ?_)
  rw [rungVal_made q kept hk2 hk1]
  have hsum : E + down = k + q + up := by omega
  rcases rungVal_mult r q with ⟨p, hp⟩ | ⟨hq, hlt⟩
  · rw [hp]
    refine Nat.mul_le_mul_right _ ?_
    rw [e2]
    refine cut_le _ _ _ _ ?_
    rw [hp] at h
    have h3 : mag * 2 ^ up * 2 ^ (k + q) ≤ p * 2 ^ down * 2 ^ (k + q) := by
      calc mag * 2 ^ up * 2 ^ (k + q) = mag * 2 ^ (E + down) := by rw [Nat.mul_assoc, ← Nat.pow_add, hsum, Nat.add_comm up]
        _ = mag * 2 ^ E * 2 ^ down := by rw [Nat.pow_add, Nat.mul_assoc]
        _ ≤ p * 2 ^ q * 2 ^ k * 2 ^ down := Nat.mul_le_mul_right _ h
        _ = p * 2 ^ down * 2 ^ (k + q) := by rw [Nat.pow_add]; simp [Nat.mul_comm, Nat.mul_left_comm, Nat.mul_assoc]
    exact Nat.le_of_mul_le_mul_right h3 (Nat.two_pow_pos _)
  · exfalso
    have h5 := e5 hq
    have h6 : mag * 2 ^ E * 2 ^ down < 4503599627370496 * 2 ^ q * 2 ^ k * 2 ^ down := by
      refine Nat.mul_lt_mul_of_pos_right (Nat.lt_of_le_of_lt h ?_) (Nat.two_pow_pos _)
      exact Nat.mul_lt_mul_of_pos_right hlt (Nat.two_pow_pos _)
    have h7 : 4503599627370496 * 2 ^ down * 2 ^ (k + q) ≤ mag * 2 ^ up * 2 ^ (k + q) := Nat.mul_le_mul_right _ h5
    have e7 : mag * 2 ^ E * 2 ^ down = mag * 2 ^ up * 2 ^ (k + q) := by rw [Nat.mul_assoc, ← Nat.pow_add, hsum, Nat.mul_assoc, ← Nat.pow_add, Nat.add_comm up]
    have e8 : 4503599627370496 * 2 ^ q * 2 ^ k * 2 ^ down = 4503599627370496 * 2 ^ down * 2 ^ (k + q) := by rw [Nat.pow_add]; simp [Nat.mul_comm, Nat.mul_left_comm, Nat.mul_assoc]
    omega

/-- The nearest word is not below a word that the number is not below. -/
theorem nearest_ge (s : Bool) (mag : Nat) (place : Int) (r k E : Nat) (hE : place + 1074 + k = E) (hr : r ≤ infR) (h : rungVal r * 2 ^ k ≤ mag * 2 ^ E) : r ≤ rung (double.nearest s mag place) := by
  by_cases h0 : mag = 0
  · rw [h0] at h
    have h1 : rungVal r = 0 := by
      rcases Nat.eq_zero_or_pos (rungVal r) with h1 | h1
      · exact h1
      · have := Nat.mul_pos h1 (Nat.two_pow_pos k); omega
    have : ¬ 0 < r := fun h2 => by have := rungVal_pos h2; omega
    omega
  obtain ⟨q, kept, up, down, e1, e2, e3, e4, e5, e6⟩ := nearest_parts s mag place h0
  rw [e1, (rung_word s (Nat.min_le_right _ _)).1]
  have hk2 : kept ≤ 9007199254740992 := by rw [e2]; exact cut_le _ _ _ _ e6
  have hk1 : q = 0 ∨ 4503599627370496 ≤ kept := by
    rcases Nat.eq_zero_or_pos q with hq | hq
    · exact .inl hq
    · right; rw [e2]; exact le_cut _ _ _ _ (e5 hq)
  refine Nat.le_min.2 ⟨rungVal_le.1 ?_, hr⟩
  rw [rungVal_made q kept hk2 hk1]
  have hsum : E + down = k + q + up := by omega
  rcases rungVal_mult r q with ⟨p, hp⟩ | ⟨hq, hlt⟩
  · rw [hp]
    refine Nat.mul_le_mul_right _ ?_
    rw [e2]
    refine le_cut _ _ _ _ ?_
    rw [hp] at h
    have h3 : p * 2 ^ down * 2 ^ (k + q) ≤ mag * 2 ^ up * 2 ^ (k + q) := by
      calc p * 2 ^ down * 2 ^ (k + q) = p * 2 ^ q * 2 ^ k * 2 ^ down := by rw [Nat.pow_add]; simp [Nat.mul_comm, Nat.mul_left_comm, Nat.mul_assoc]
        _ ≤ mag * 2 ^ E * 2 ^ down := Nat.mul_le_mul_right _ h
        _ = mag * 2 ^ (E + down) := by rw [Nat.pow_add, Nat.mul_assoc]
        _ = mag * 2 ^ up * 2 ^ (k + q) := by rw [Nat.mul_assoc, ← Nat.pow_add, hsum, Nat.add_comm up]
    exact Nat.le_of_mul_le_mul_right h3 (Nat.two_pow_pos _)
  · have h5 : 4503599627370496 ≤ kept := by rcases hk1 with h | h <;> omega
    have : 4503599627370496 * 2 ^ q ≤ kept * 2 ^ q := Nat.mul_le_mul_right _ h5
    omega

end Go.Proofs.Qxb6631213a
