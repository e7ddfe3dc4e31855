/-
  (Micro).Div (function 5): its contract; the plain facts on rounding half away from zero.
-/
import Derived.Test.Qxb6630501aRows
import Derived.WalkKit
import Derived.ProofKit
import Derived.BigQuiet
import Derived.Deep.QuietTactic
namespace Go.Proofs.Qxb6630501a
open Go.RowKit

/-- m / d rounded half away from zero -/
def rnd (m d : Int) : Int :=
  if 0 < m.tmod d ∧ d ≤ 2 * m.tmod d then m.tdiv d + 1 else if m.tmod d < 0 ∧ d ≤ -2 * m.tmod d then m.tdiv d - 1 else m.tdiv d

theorem td_facts (m d : Int) (hd : 0 < d) : d * m.tdiv d + m.tmod d = m ∧ -d < m.tmod d ∧ m.tmod d < d ∧ (0 ≤ m → 0 ≤ m.tmod d ∧ 0 ≤ m.tdiv d ∧ m.tdiv d ≤ m) ∧ (m ≤ 0 → m.tmod d ≤ 0 ∧ m.tdiv d ≤ 0 ∧ m ≤ m.tdiv d) := by
  refine ⟨Int.mul_tdiv_add_tmod m d, Int.lt_tmod_of_pos m hd, Int.tmod_lt_of_pos m hd, fun h => ?_, fun h => ?_⟩
  · exact ⟨Int.tmod_nonneg d h, Int.tdiv_nonneg h (by omega), Int.tdiv_le_self d h⟩
  · have h1 := Int.tmod_nonneg d (show 0 ≤ -m by omega)
    have h2 := Int.tdiv_nonneg (show 0 ≤ -m by omega) (show 0 ≤ d by omega)
    have h3 := Int.tdiv_le_self d (show 0 ≤ -m by omega)
    rw [Int.neg_tmod] at h1
    rw [Int.neg_tdiv] at h2 h3
    omega

/-- the quotient away from the ends, where there is a remainder -/
theorem td_room (m d : Int) (hd : 0 < d) : (0 < m.tmod d → m.tdiv d + 1 ≤ m ∧ 0 ≤ m.tdiv d) ∧ (m.tmod d < 0 → m ≤ m.tdiv d - 1 ∧ m.tdiv d ≤ 0) := by
  obtain ⟨h1, _, _, h4, h5⟩ := td_facts m d hd
  constructor
  · intro h
    have hm : 0 ≤ m := by rcases Int.le_total 0 m with h' | h'; exact h'; have := (h5 h').1; omega
    have hq := (h4 hm).2.1
    have := Int.mul_le_mul_of_nonneg_right (show 1 ≤ d by omega) hq
    omega
  · intro h
    have hm : m ≤ 0 := by rcases Int.le_total 0 m with h' | h'; have := (h4 h').1; omega; exact h'
    have hq := (h5 hm).2.1
    have := Int.mul_le_mul_of_nonneg_right (show 1 ≤ d by omega) (show 0 ≤ -m.tdiv d by omega)
    have e : d * -m.tdiv d = -(d * m.tdiv d) := Int.mul_neg _ _
    omega

theorem ret_int {k : IntKind} {a b : Int} (h : a = b) : Ending.returned (.int k a) = .returned (.int k b) := by rw [h]

set_option maxHeartbeats 800000 in
theorem div5 (m d : Int) (hm0 : -9223372036854775808 ≤ m) (hm1 : m ≤ 9223372036854775807) (hd0 : 0 < d) (hd1 : d ≤ 4611686018427387904) (w : World) :
    Calls Try.prog 5 #[.int .i64 m, .int .i64 d] w fun e w' => e = .returned (.int .i64 (rnd m d)) ∧ w.drew = w' := by
  obtain ⟨_, h2, h3, h4, h5⟩ := td_facts m d hd0
  have hq0 : -9223372036854775808 ≤ m.tdiv d := by rcases Int.le_total 0 m with h | h; have := h4 h; omega; have := h5 h; omega
  have hq1 : m.tdiv d ≤ 9223372036854775807 := by rcases Int.le_total 0 m with h | h; have := h4 h; omega; have := h5 h; omega
  have hdn : ¬ d = 0 := by omega
  have hr := td_room m d hd0
  clear h4 h5
  rcases (show (0 < m.tmod d ∧ d ≤ 2 * m.tmod d) ∨ (0 < m.tmod d ∧ 2 * m.tmod d < d) ∨ (0 ≤ m.tmod d ∧ m.tmod d ≤ 0) ∨ (m.tmod d < 0 ∧ d ≤ -2 * m.tmod d) ∨ (m.tmod d < 0 ∧ -2 * m.tmod d < d) from by omega) with ⟨a, b⟩ | ⟨a, b⟩ | ⟨a, b⟩ | ⟨a, b⟩ | ⟨a, b⟩
  · have hf : rnd m d = m.tdiv d + 1 := by unfold rnd; rw [if_pos ⟨a, b⟩]
    have HF : Hid (rnd m d = m.tdiv d + 1) := hf
    have hq2 := (hr.1 a).1
    clear hf hr
    go_enter Try.func5, Try.ntmps5
    go_wp2
    go_region
    go_wp2
    go_ret
    exact ⟨ret_int HF.out.symm, rfl⟩
  · have HF : Hid (rnd m d = m.tdiv d) := by show rnd m d = m.tdiv d; unfold rnd; rw [if_neg (by omega), if_neg (by omega)]
    clear hr
    go_enter Try.func5, Try.ntmps5
    go_wp2
    go_region
    go_wp2
    go_ret
    exact ⟨ret_int HF.out.symm, rfl⟩
  · have HF : Hid (rnd m d = m.tdiv d) := by show rnd m d = m.tdiv d; unfold rnd; rw [if_neg (by omega), if_neg (by omega)]
    clear hr
    go_enter Try.func5, Try.ntmps5
    go_wp2
    go_region
    go_wp2
    go_ret
    exact ⟨ret_int HF.out.symm, rfl⟩
  · have hf : rnd m d = m.tdiv d - 1 := by unfold rnd; rw [if_neg (by omega), if_pos ⟨a, b⟩]
    have HF : Hid (rnd m d = m.tdiv d - 1) := hf
    have hq2 := (hr.2 a).1
    clear hf hr
    go_enter Try.func5, Try.ntmps5
    go_wp2
    go_region
    go_wp2
    go_ret
    exact ⟨ret_int HF.out.symm, rfl⟩
  · have HF : Hid (rnd m d = m.tdiv d) := by show rnd m d = m.tdiv d; unfold rnd; rw [if_neg (by omega), if_neg (by omega)]
    clear hr
    go_enter Try.func5, Try.ntmps5
    go_wp2
    go_region
    go_wp2
    go_ret
    exact ⟨ret_int HF.out.symm, rfl⟩

end Go.Proofs.Qxb6630501a
