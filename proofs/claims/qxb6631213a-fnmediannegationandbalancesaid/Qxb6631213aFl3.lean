/-
  Seat b6631213a. The half of a sum lies between the two; negation turns it about.
-/
import Derived.Test.Qxb6631213aFl2
import Derived.Test.Qxb6631213aPlain
namespace Go.Proofs.Qxb6631213a
open Ieee

/-- The rung of twice the value. -/
def dbl (r : Nat) : Nat := if r < 4503599627370496 then 2 * r else r + 4503599627370496

theorem rungVal_dbl (r : Nat) : rungVal (dbl r) = 2 * rungVal r := by
  unfold dbl
  by_cases h : r < 4503599627370496
  · rw [if_pos h]
    unfold rungVal
    rw [if_pos h]
    by_cases h2 : 2 * r < 4503599627370496
    · rw [if_pos h2]
    · rw [if_neg h2, show 2 * r / 4503599627370496 - 1 = 0 by omega]; omega
  · rw [if_neg h]
    unfold rungVal
    rw [if_neg h, if_neg (by omega), show (r + 4503599627370496) % 4503599627370496 = r % 4503599627370496 by omega, show (r + 4503599627370496) / 4503599627370496 - 1 = r / 4503599627370496 - 1 + 1 by omega, Nat.pow_succ]
    generalize 2 ^ (r / 4503599627370496 - 1) = P
    rw [← Nat.mul_assoc, Nat.mul_comm]

theorem word_facts (s : Bool) {R : Nat} (h : R ≤ infR) : nanF (double.word s R) = false ∧ val (double.word s R) = (if s then -(rungVal R : Int) else rungVal R) := by
  obtain ⟨h1, h2⟩ := rung_word s h
  refine ⟨nanF_false.2 (by rw [h1]; exact h), ?_⟩
  unfold val
  rw [h1, h2]

theorem val_pos {x : Nat} (h : 0 < val x) : val x = rungVal (rung x) := by
  unfold val at h ⊢
  split
  · rename_i hs; rw [if_pos hs] at h; omega
  · rfl
theorem val_neg {x : Nat} (h : val x < 0) : val x = -(rungVal (rung x) : Int) := by
  unfold val at h ⊢
  split
  · rfl
  · rename_i hs; rw [if_neg hs] at h; omega

/-- A number that is written: between two bounds that are words. X: the number in units of 2 ^ (-1074 - k). -/
theorem written_between (s : Bool) (mag : Nat) (place : Int) (k E : Nat) (hE : place + 1074 + k = E) (X lo hi : Int) (hX : X = if s then -((mag * 2 ^ E : Nat) : Int) else ((mag * 2 ^ E : Nat) : Int)) (rl rh : Nat)
    (hl : lo = rungVal rl ∨ lo = -(rungVal rl : Int)) (hh : hi = rungVal rh ∨ hi = -(rungVal rh : Int)) (brl : rl ≤ infR) (brh : rh ≤ infR) (h1 : lo * 2 ^ k ≤ X) (h2 : X ≤ hi * 2 ^ k) :
    nanF (double.nearest s mag place) = false ∧ lo ≤ val (double.nearest s mag place) ∧ val (double.nearest s mag place) ≤ hi := by
  obtain ⟨R, hR, hw, h0⟩ := nearest_word s mag place
  obtain ⟨w1, w2⟩ := word_facts s hR
  have hr : rung (double.nearest s mag place) = R := by rw [hw s]; exact (rung_word s hR).1
  have hP : (0 : Int) < 2 ^ k := Int.pow_pos (by decide)
  have cast : ∀ r : Nat, ((rungVal r * 2 ^ k : Nat) : Int) = (rungVal r : Int) * 2 ^ k := fun r => by push_cast; rfl
  rw [hw s]
  refine ⟨w1, ?_⟩
  rw [w2]
  by_cases hm : mag = 0
  · have hR0 := h0 hm
    subst hR0
    have hX0 : X = 0 := by rw [hX, hm]; split <;> simp
    rw [hX0] at h1 h2
    have e : rungVal 0 = 0 := by simp [rungVal]
    rw [e]
    have a1 : lo ≤ 0 := by
      by_cases h : 0 < lo
      · have := Int.mul_pos h hP; omega
      · omega
    have a2 : 0 ≤ hi := by
      by_cases h : hi < 0
      · have := Int.mul_neg_of_neg_of_pos h hP; omega
      · omega
    cases s <;> simp <;> omega
  · have hmp : 0 < mag * 2 ^ E := Nat.mul_pos (Nat.pos_of_ne_zero hm) (Nat.two_pow_pos _)
    cases s
    · simp only [Bool.false_eq_true, if_false] at hX ⊢
      constructor
      · rcases hl with rfl | rfl
        · rw [← cast, hX] at h1
          have := nearest_ge false mag place rl k E hE brl (by omega)
          rw [hr] at this
          have := rungVal_le.2 this
          omega
        · omega
      · rcases hh with rfl | rfl
        · rw [← cast, hX] at h2
          have := nearest_le false mag place rh k E hE (by omega)
          rw [hr] at this
          have := rungVal_le.2 this
          omega
        · exfalso
          rw [Int.neg_mul, ← cast, hX] at h2
          omega
    · simp only [if_true] at hX ⊢
      constructor
      · rcases hl with rfl | rfl
        · exfalso
          rw [← cast, hX] at h1
          omega
        · rw [Int.neg_mul, ← cast, hX] at h1
          have := nearest_le true mag place rl k E hE (by omega)
          rw [hr] at this
          have := rungVal_le.2 this
          omega
      · rcases hh with rfl | rfl
        · omega
        · rw [Int.neg_mul, ← cast, hX] at h2
          have := nearest_ge true mag place rh k E hE brh (by omega)
          rw [hr] at this
          have := rungVal_le.2 this
          omega

theorem signed_abs (X : Int) : X = if decide (X < 0) then -(X.natAbs : Int) else (X.natAbs : Int) := by
  by_cases h : X < 0
  · simp [h]; omega
  · simp [h]; omega

theorem signed_eq (s : Bool) (m k : Nat) : signed s m k = if s then -((m * 2 ^ k : Nat) : Int) else ((m * 2 ^ k : Nat) : Int) := by
  unfold signed; rw [Nat.shiftLeft_eq]

theorem val_cases (x : Nat) : val x = rungVal (rung x) ∨ val x = -(rungVal (rung x) : Int) := by
  unfold val; split
  · exact .inr rfl
  · exact .inl rfl

theorem twice_cases (x : Nat) : 2 * val x = rungVal (dbl (rung x)) ∨ 2 * val x = -(rungVal (dbl (rung x)) : Int) := by
  rw [rungVal_dbl]
  rcases val_cases x with h | h
  · left; omega
  · right; omega

/-- A sum lies between twice the one and twice the other. -/
theorem add_between {a b t : Nat} (ha : rung a < infR) (hb : rung b < infR) (da : dbl (rung a) ≤ infR) (db : dbl (rung b) ≤ infR) (hab : val a ≤ val b) (g : Gives (double.add a b) t) :
    nanF t = false ∧ 2 * val a ≤ val t ∧ val t ≤ 2 * val b := by
  obtain ⟨m, i, e1, v1, _⟩ := read_finite a ha
  obtain ⟨n, j, e2, v2, _⟩ := read_finite b hb
  obtain ⟨Q, hQ, X, hX, ht⟩ : ∃ Q : Nat, ∃ (_ : -1074 + (Q : Int) = min (-1074 + (i : Int)) (-1074 + (j : Int))), ∃ X : Int, X * 2 ^ Q = val a + val b ∧
      double.add a b = some (double.nearest (if X = 0 then sgn a && sgn b else decide (X < 0)) X.natAbs (-1074 + (Q : Int))) := by
    rcases Nat.le_total i j with h | h
    · refine ⟨i, by omega, signed (sgn a) m 0 + signed (sgn b) n (j - i), ?_, ?_⟩
      · rw [Int.add_mul, ← signed_add, ← signed_add, Nat.zero_add, show j - i + i = j by omega, v1, v2]
      · unfold Format.add
        rw [e1, e2]
        simp only [Datum.sum, Option.map_some, Format.write]
        rw [show min (-1074 + (i : Int)) (-1074 + (j : Int)) = -1074 + (i : Int) by omega, show (-1074 + (i : Int) - (-1074 + (i : Int))).toNat = 0 by omega, show (-1074 + (j : Int) - (-1074 + (i : Int))).toNat = j - i by omega]
    · refine ⟨j, by omega, signed (sgn a) m (i - j) + signed (sgn b) n 0, ?_, ?_⟩
      · rw [Int.add_mul, ← signed_add, ← signed_add, Nat.zero_add, show i - j + j = i by omega, v1, v2]
      · unfold Format.add
        rw [e1, e2]
        simp only [Datum.sum, Option.map_some, Format.write]
        rw [show min (-1074 + (i : Int)) (-1074 + (j : Int)) = -1074 + (j : Int) by omega, show (-1074 + (j : Int) - (-1074 + (j : Int))).toNat = 0 by omega, show (-1074 + (i : Int) - (-1074 + (j : Int))).toNat = i - j by omega]
  rw [ht] at g
  have et : t = double.nearest (if X = 0 then sgn a && sgn b else decide (X < 0)) X.natAbs (-1074 + (Q : Int)) := by
    rcases g with g | ⟨g, _⟩
    · cases g; rfl
    · cases g
  rw [et]
  refine written_between _ X.natAbs _ 0 Q (by omega) (val a + val b) (2 * val a) (2 * val b) ?_ _ _ (twice_cases a) (twice_cases b) da db (by simp; omega) (by simp; omega)
  rw [← hX]
  have hc : ((X.natAbs * 2 ^ Q : Nat) : Int) = (X.natAbs : Int) * 2 ^ Q := by push_cast; rfl
  rw [hc]
  by_cases h0 : X = 0
  · rw [h0]; split <;> simp
  · simp only [h0, if_false]
    have := signed_abs X
    split
    · rename_i hs
      rw [if_pos hs] at this
      rw [← Int.neg_mul, ← this]
    · rename_i hs
      rw [if_neg hs] at this
      rw [← this]

/-- The word 2.0. -/
theorem read_two : double.read 4611686018427387904 = .number false 4503599627370496 (-51) := by rw [read_eq]; decide

theorem read_small {x m : Nat} {s : Bool} {p : Int} (h : double.read x = .number s m p) : m < 9007199254740992 := by
  rw [read_eq] at h
  split at h
  · cases h; omega
  · split at h
    · cases h; omega
    · split at h <;> cases h

/-- The half of a number that lies between two doubled bounds. -/
theorem half_between {t c m A B : Nat} (hc : c = 4611686018427387904) (ht : rung t < infR) (bA : rung A ≤ infR) (bB : rung B ≤ infR) (h1 : 2 * val A ≤ val t) (h2 : val t ≤ 2 * val B) (g : Gives (double.div t c) m) :
    nanF m = false ∧ val A ≤ val m ∧ val m ≤ val B := by
  subst hc
  obtain ⟨mt, i, e1, v1, _⟩ := read_finite t ht
  have hm := read_small e1
  have hL : mt.log2 ≤ 52 := by
    rcases Nat.eq_zero_or_pos mt with h | h
    · rw [h]; decide
    · have : mt.log2 < 53 := (Nat.log2_lt (by omega)).2 (by omega)
      omega
  have hlog : Nat.log2 4503599627370496 = 52 := by decide
  obtain ⟨M, hM⟩ : ∃ M : Nat, 54 + 52 - mt.log2 = M + 52 := ⟨54 - mt.log2, by omega⟩
  have ed : double.div t 4611686018427387904 = some (double.nearest (sgn t) (mt * 2 ^ (M + 1)) (-1074 + (i : Int) - -51 - ((M + 52 : Nat) : Int) - 1)) := by
    unfold Format.div
    rw [e1, read_two]
    simp only [Datum.quotient]
    rw [if_neg (by decide)]
    simp only [hlog, show double.fractionBits = 52 from rfl, Nat.reduceAdd, Option.map_some, Format.write, Bool.xor_false, Nat.shiftLeft_eq]
    have hM' : 106 - mt.log2 = M + 52 := by omega
    rw [hM']
    have e52 : (2 : Nat) ^ 52 = 4503599627370496 := by decide
    have e3 : mt * 2 ^ (M + 52) = mt * 2 ^ M * 4503599627370496 := by rw [Nat.pow_add, e52, ← Nat.mul_assoc]
    rw [e3, Nat.mul_mod_left, Nat.mul_div_cancel _ (by decide)]
    have e4 : 2 * (mt * 2 ^ M) + ((0 : Nat) != 0).toNat = mt * 2 ^ (M + 1) := by
      have e5 : ((0 : Nat) != 0).toNat = 0 := rfl
      rw [e5, Nat.add_zero, Nat.pow_succ, ← Nat.mul_assoc mt, Nat.mul_comm 2]
    rw [e4]
  rw [ed] at g
  have et : m = double.nearest (sgn t) (mt * 2 ^ (M + 1)) (-1074 + (i : Int) - -51 - ((M + 52 : Nat) : Int) - 1) := by
    rcases g with g | ⟨g, _⟩
    · cases g; rfl
    · cases g
  rw [et]
  have hX : val t * 2 ^ (M + 1) = if sgn t then -((mt * 2 ^ (M + 1) * 2 ^ i : Nat) : Int) else ((mt * 2 ^ (M + 1) * 2 ^ i : Nat) : Int) := by
    have e4 : ((mt * 2 ^ (M + 1) * 2 ^ i : Nat) : Int) = ((mt * 2 ^ i : Nat) : Int) * 2 ^ (M + 1) := by
      rw [Nat.mul_assoc, Nat.mul_comm (2 ^ (M + 1)), ← Nat.mul_assoc]; push_cast; rfl
    rw [← v1, signed_eq, e4]
    split
    · rw [Int.neg_mul]
    · rfl
  have hpow : (2 : Int) ^ (M + 2) = 2 * 2 ^ (M + 1) := by rw [Int.pow_succ]; omega
  have hP : (0 : Int) ≤ 2 ^ (M + 1) := Int.le_of_lt (Int.pow_pos (by decide))
  refine written_between (sgn t) (mt * 2 ^ (M + 1)) _ (M + 2) i (by omega) (val t * 2 ^ (M + 1)) (val A) (val B) hX _ _ (val_cases A) (val_cases B) bA bB ?_ ?_
  · rw [hpow, ← Int.mul_assoc, Int.mul_comm (val A)]
    exact Int.mul_le_mul_of_nonneg_right h1 hP
  · rw [hpow, ← Int.mul_assoc, Int.mul_comm (val B)]
    exact Int.mul_le_mul_of_nonneg_right h2 hP

/-- The mean of two words that are not too great lies between them. -/
theorem Half.between {a b m : Nat} (da : dbl (rung a) < infR) (db : dbl (rung b) < infR) (hab : val a ≤ val b) (h : Half a b m) : nanF m = false ∧ val a ≤ val m ∧ val m ≤ val b := by
  have ha : rung a < infR := by unfold dbl at da; split at da <;> omega
  have hb : rung b < infR := by unfold dbl at db; split at db <;> omega
  obtain ⟨t, g1, g2⟩ := h
  obtain ⟨n1, l1, l2⟩ := add_between ha hb (by omega) (by omega) hab g1
  have ht : rung t < infR := by
    have q1 := rungVal_dbl (rung a)
    have q2 := rungVal_dbl (rung b)
    have q3 := rungVal_lt da
    have q4 := rungVal_lt db
    have q5 := abs_val t
    have q6 := abs_val a
    have q7 := abs_val b
    rcases Nat.lt_or_ge (rung t) infR with h | h
    · exact h
    · have := rungVal_le.2 h
      omega
  exact half_between rfl ht (by omega) (by omega) l1 l2 g2

end Go.Proofs.Qxb6631213a
