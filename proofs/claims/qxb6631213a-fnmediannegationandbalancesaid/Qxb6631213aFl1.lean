/-
  Seat b6631213a. Words of float64 in whole numbers: the value of a word in units of the least place; the order of the model is the order of these values; the order of the sort is a strict weak order.
-/
import Derived.Test.Qxb6631213aFl0
import Derived.Sort.AssemblyPlain
namespace Go.Proofs.Qxb6631213a
open Go.Sort Ieee

/-- The rung of a word (its lower 63 bits). -/
def rung (x : Nat) : Nat := x % 9223372036854775808
/-- The sign bit. -/
def sgn (x : Nat) : Bool := x / 9223372036854775808 % 2 == 1
/-- The rung of infinity. -/
def infR : Nat := 9218868437227405312
/-- The magnitude of a rung, in units of the least place. -/
def rungVal (r : Nat) : Nat := if r < 4503599627370496 then r else (4503599627370496 + r % 4503599627370496) * 2 ^ (r / 4503599627370496 - 1)
/-- The value of a word that is no NaN, in units of the least place. -/
def val (x : Nat) : Int := if sgn x then -(rungVal (rung x) : Int) else (rungVal (rung x) : Int)

theorem rungVal_lt {r s : Nat} (h : r < s) : rungVal r < rungVal s := by
  unfold rungVal
  by_cases h1 : r < 4503599627370496
  · rw [if_pos h1]
    by_cases h2 : s < 4503599627370496
    · rw [if_pos h2]; exact h
    · rw [if_neg h2]
      have : 1 ≤ 2 ^ (s / 4503599627370496 - 1) := Nat.one_le_two_pow
      have : (4503599627370496 + s % 4503599627370496) * 1 ≤ (4503599627370496 + s % 4503599627370496) * 2 ^ (s / 4503599627370496 - 1) := Nat.mul_le_mul_left _ this
      omega
  · rw [if_neg h1, if_neg (by omega)]
    by_cases h3 : r / 4503599627370496 = s / 4503599627370496
    · rw [h3]
      exact Nat.mul_lt_mul_of_pos_right (by omega) (Nat.two_pow_pos _)
    · have hq : r / 4503599627370496 < s / 4503599627370496 := by omega
      have hr1 : 1 ≤ r / 4503599627370496 := by omega
      obtain ⟨p, hp⟩ : ∃ p, r / 4503599627370496 = p + 1 := ⟨r / 4503599627370496 - 1, by omega⟩
      obtain ⟨q, hqq⟩ : ∃ q, s / 4503599627370496 = q + 1 := ⟨s / 4503599627370496 - 1, by omega⟩
      rw [hp, hqq, Nat.add_sub_cancel, Nat.add_sub_cancel]
      have hpq : p + 1 ≤ q := by omega
      have e1 : (4503599627370496 + r % 4503599627370496) * 2 ^ p < 9007199254740992 * 2 ^ p := Nat.mul_lt_mul_of_pos_right (by omega) (Nat.two_pow_pos _)
      have e2 : 4503599627370496 * 2 ^ (p + 1) ≤ 4503599627370496 * 2 ^ q := Nat.mul_le_mul_left _ (Nat.pow_le_pow_right (by decide) hpq)
      have e3 : 4503599627370496 * 2 ^ q ≤ (4503599627370496 + s % 4503599627370496) * 2 ^ q := Nat.mul_le_mul_right _ (by omega)
      rw [Nat.pow_succ] at e2
      omega

theorem rungVal_le {r s : Nat} : rungVal r ≤ rungVal s ↔ r ≤ s := by
  constructor
  · intro h
    rcases Nat.lt_or_ge s r with h1 | h1
    · have := rungVal_lt h1; omega
    · exact h1
  · intro h
    rcases Nat.lt_or_eq_of_le h with h1 | rfl
    · exact Nat.le_of_lt (rungVal_lt h1)
    · exact Nat.le_refl _

theorem rungVal_inj {r s : Nat} (h : rungVal r = rungVal s) : r = s := by
  have h1 := rungVal_le.1 (Nat.le_of_eq h)
  have h2 := rungVal_le.1 (Nat.le_of_eq h.symm)
  omega

theorem rungVal_pos {r : Nat} (h : 0 < r) : 0 < rungVal r := by
  have := rungVal_lt h
  simpa [rungVal] using this

/-- What a word stands for. -/
theorem read_eq (x : Nat) : double.read x =
    (if rung x < 4503599627370496 then .number (sgn x) (rung x) (-1074)
     else if rung x < infR then .number (sgn x) (4503599627370496 + rung x % 4503599627370496) (-1074 + (rung x / 4503599627370496 - 1 : Nat))
     else if rung x = infR then .infinity (sgn x)
     else .nan (sgn x) (rung x - infR)) := rfl

def cmpI (a b : Int) : Ordering := if a < b then .lt else if a = b then .eq else .gt

theorem compare_cmpI (a b : Int) : compare a b = cmpI a b := rfl

theorem cmpI_mul (a b : Int) (k : Nat) : cmpI (a * 2 ^ k) (b * 2 ^ k) = cmpI a b := by
  have hk : (0 : Int) < 2 ^ k := Int.pow_pos (by decide)
  unfold cmpI
  simp only [Int.mul_lt_mul_right hk, Int.mul_eq_mul_right_iff (Int.ne_of_gt hk)]

theorem cmpI_lt {a b : Int} (h : a < b) : cmpI a b = .lt := by simp [cmpI, h]
theorem cmpI_gt {a b : Int} (h : b < a) : cmpI a b = .gt := by
  unfold cmpI
  rw [if_neg (by omega), if_neg (by omega)]

theorem signed_add (s : Bool) (m a k : Nat) : signed s m (a + k) = signed s m a * 2 ^ k := by
  have e : ((m <<< (a + k) : Nat) : Int) = ((m <<< a : Nat) : Int) * 2 ^ k := by
    rw [Nat.shiftLeft_eq, Nat.shiftLeft_eq, Nat.pow_add, ← Nat.mul_assoc]
    push_cast
    rfl
  unfold signed
  cases s
  · simpa using e
  · simp only [if_true, e, Int.neg_mul]

/-- A finite word: a number at a place not below the least. -/
theorem read_finite (x : Nat) (h : rung x < infR) : ∃ m k : Nat, double.read x = .number (sgn x) m (-1074 + (k : Int)) ∧ signed (sgn x) m k = val x ∧ (m = 0 ↔ rung x = 0) := by
  rw [read_eq]
  by_cases h1 : rung x < 4503599627370496
  · refine ⟨rung x, 0, by rw [if_pos h1]; rfl, ?_, Iff.rfl⟩
    simp [signed, val, rungVal, h1]
  · refine ⟨4503599627370496 + rung x % 4503599627370496, rung x / 4503599627370496 - 1, by rw [if_neg h1, if_pos h], ?_, by omega⟩
    simp only [signed, val, rungVal, h1, if_false, Nat.shiftLeft_eq]

theorem read_inf (x : Nat) (h : rung x = infR) : double.read x = .infinity (sgn x) := by
  rw [read_eq, if_neg (by rw [h]; decide), if_neg (by rw [h]; decide), if_pos h]

theorem read_nan (x : Nat) (h : infR < rung x) : double.read x = .nan (sgn x) (rung x - infR) := by
  rw [read_eq, if_neg (by unfold infR at h; omega), if_neg (by omega), if_neg (by omega)]

theorem abs_val (x : Nat) : (val x).natAbs = rungVal (rung x) := by
  unfold val; split <;> simp

theorem order_val (x y : Nat) (hx : rung x ≤ infR) (hy : rung y ≤ infR) : double.order x y = some (cmpI (val x) (val y)) := by
  unfold Format.order
  have hI : 0 < rungVal infR := rungVal_pos (by decide)
  rcases Nat.lt_or_eq_of_le hx with hx | hx <;> rcases Nat.lt_or_eq_of_le hy with hy | hy
  · obtain ⟨m, i, e1, v1, _⟩ := read_finite x hx
    obtain ⟨n, j, e2, v2, _⟩ := read_finite y hy
    rw [e1, e2]
    simp only [Datum.order, compare_cmpI]
    congr 1
    rcases Nat.le_total i j with h | h
    · obtain ⟨k, rfl⟩ := Nat.le.dest h
      rw [show min (-1074 + (i : Int)) (-1074 + ((i + k : Nat) : Int)) = -1074 + (i : Int) by omega,
        show (-1074 + (i : Int) - (-1074 + (i : Int))).toNat = 0 by omega, show (-1074 + ((i + k : Nat) : Int) - (-1074 + (i : Int))).toNat = k by omega]
      rw [← v1, ← v2, show signed (sgn x) m i = signed (sgn x) m 0 * 2 ^ i by rw [← signed_add, Nat.zero_add], show i + k = k + i by omega, signed_add _ n k i, cmpI_mul]
    · obtain ⟨k, rfl⟩ := Nat.le.dest h
      rw [show min (-1074 + ((j + k : Nat) : Int)) (-1074 + (j : Int)) = -1074 + (j : Int) by omega,
        show (-1074 + (j : Int) - (-1074 + (j : Int))).toNat = 0 by omega, show (-1074 + ((j + k : Nat) : Int) - (-1074 + (j : Int))).toNat = k by omega]
      rw [← v1, ← v2, show signed (sgn y) n j = signed (sgn y) n 0 * 2 ^ j by rw [← signed_add, Nat.zero_add], show j + k = k + j by omega, signed_add _ m k j, cmpI_mul]
  · obtain ⟨m, i, e1, v1, _⟩ := read_finite x hx
    rw [e1, read_inf y hy]
    have a1 := abs_val x
    have a2 := rungVal_lt hx
    have e2 : val y = if sgn y then -(rungVal infR : Int) else rungVal infR := by simp [val, hy]
    simp only [Datum.order]
    congr 1
    cases hs : sgn y
    · rw [hs] at e2; exact (cmpI_lt (by simp at e2; omega)).symm
    · rw [hs] at e2; exact (cmpI_gt (by simp at e2; omega)).symm
  · obtain ⟨m, i, e1, v1, _⟩ := read_finite y hy
    rw [e1, read_inf x hx]
    have a1 := abs_val y
    have a2 := rungVal_lt hy
    have e2 : val x = if sgn x then -(rungVal infR : Int) else rungVal infR := by simp [val, hx]
    simp only [Datum.order]
    congr 1
    cases hs : sgn x
    · rw [hs] at e2; exact (cmpI_gt (by simp at e2; omega)).symm
    · rw [hs] at e2; exact (cmpI_lt (by simp at e2; omega)).symm
  · rw [read_inf x hx, read_inf y hy]
    have e1 : val x = if sgn x then -(rungVal infR : Int) else rungVal infR := by simp [val, hx]
    have e2 : val y = if sgn y then -(rungVal infR : Int) else rungVal infR := by simp [val, hy]
    rw [e1, e2]
    simp only [Datum.order]
    congr 1
    cases sgn x <;> cases sgn y
    · simp [cmpI]
    · exact (cmpI_gt (by simp; omega)).symm
    · exact (cmpI_lt (by simp; omega)).symm
    · simp [cmpI]

theorem order_nan_left (x y : Nat) (hx : infR < rung x) : double.order x y = none := by
  unfold Format.order
  rw [read_nan x hx]
  cases double.read y <;> rfl

theorem order_nan_right (x y : Nat) (hy : infR < rung y) : double.order x y = none := by
  unfold Format.order
  rw [read_nan y hy]
  cases double.read x <;> rfl

theorem nanF_eq (x : Nat) : nanF x = decide (infR < rung x) := by
  unfold nanF
  show (double.order x x != some .eq) = _
  by_cases h : infR < rung x
  · rw [order_nan_left x x h]; simp [h]
  · rw [order_val x x (by omega) (by omega)]; simp [h, cmpI]

theorem nanF_false {x : Nat} : nanF x = false ↔ rung x ≤ infR := by rw [nanF_eq]; simp

theorem order_of (x y : Nat) (hx : nanF x = false) (hy : nanF y = false) : double.order x y = some (cmpI (val x) (val y)) := order_val x y (nanF_false.1 hx) (nanF_false.1 hy)

theorem order_of_nan (x y : Nat) (h : nanF x = true ∨ nanF y = true) : double.order x y = none := by
  rcases h with h | h
  · exact order_nan_left x y (by rw [nanF_eq] at h; simpa using h)
  · exact order_nan_right x y (by rw [nanF_eq] at h; simpa using h)

/-- 'x < y' in the program. -/
theorem lss_eq (x y : Nat) : (FloatKind.f64.format.order x y == some .lt) = (!nanF x && !nanF y && decide (val x < val y)) := by
  show (double.order x y == some .lt) = _
  cases hx : nanF x
  · cases hy : nanF y
    · rw [order_of x y hx hy]
      unfold cmpI
      by_cases h : val x < val y
      · simp [h]
      · rw [if_neg h]; split <;> simp [h]
    · rw [order_of_nan x y (.inr hy)]; simp
  · rw [order_of_nan x y (.inl hx)]; simp

theorem eql_eq (x y : Nat) : (FloatKind.f64.format.order x y == some .eq) = (!nanF x && !nanF y && decide (val x = val y)) := by
  show (double.order x y == some .eq) = _
  cases hx : nanF x
  · cases hy : nanF y
    · rw [order_of x y hx hy]
      unfold cmpI
      by_cases h : val x < val y
      · rw [if_pos h]; simp; omega
      · rw [if_neg h]; split <;> simp_all
    · rw [order_of_nan x y (.inr hy)]; simp
  · rw [order_of_nan x y (.inl hx)]; simp

theorem gtr_eq (x y : Nat) : (FloatKind.f64.format.order x y == some .gt) = (!nanF x && !nanF y && decide (val y < val x)) := by
  show (double.order x y == some .gt) = _
  cases hx : nanF x
  · cases hy : nanF y
    · rw [order_of x y hx hy]
      unfold cmpI
      by_cases h : val x < val y
      · rw [if_pos h]; simp; omega
      · rw [if_neg h]
        by_cases h2 : val x = val y
        · rw [if_pos h2]; simp; omega
        · rw [if_neg h2]; simp; omega
    · rw [order_of_nan x y (.inr hy)]; simp
  · rw [order_of_nan x y (.inl hx)]; simp

theorem ltF_eq (x y : Nat) : ltF x y = (!nanF y && (nanF x || decide (val x < val y))) := by
  unfold ltF
  rw [lss_eq]
  cases nanF x <;> cases nanF y <;> simp

theorem swo_ltF : SWO ltF where
  irrefl x := by rw [ltF_eq]; cases nanF x <;> simp
  trans x y z := by
    rw [ltF_eq, ltF_eq, ltF_eq]
    cases nanF x <;> cases nanF y <;> cases nanF z <;> simp
    omega
  ntrans x y z := by
    rw [ltF_eq, ltF_eq, ltF_eq]
    cases nanF x <;> cases nanF y <;> cases nanF z <;> simp
    omega

end Go.Proofs.Qxb6631213a
