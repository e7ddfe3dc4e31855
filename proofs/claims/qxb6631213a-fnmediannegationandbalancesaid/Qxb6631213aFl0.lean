/-
  Seat b6631213a. The words of the sort at float64 over this program: an element is a word (its bits, a Nat); the order of the library's sort: every NaN ahead of every number, numbers by <. The walks of cmp.isNaN (36) and cmp.Less (26).
-/
import Derived.Test.Qxb6631213aProg
import Derived.Lib.Walk
import Derived.Sort.Row
import Derived.Lib.Strings
import Derived.Laws.Cover2
namespace Go.Proofs.Qxb6631213a
open Go.Sort

/-- A float is stored as every other value of one cell is. -/
@[go_sem] theorem run_store_float (P : Program) (w : World) (a : Addr) (m : Mode) (k : FloatKind) (n : Nat) : (store a (.float k n) m).run P w = stored P w a (.float k n) m := run_store P w a _ m rfl

abbrev encF : Nat → Value := fun x => Value.float .f64 x

/-- Is this word a NaN? As the program asks: x != x. -/
def nanF (x : Nat) : Bool := FloatKind.f64.format.order x x != some .eq

/-- The order of cmp.Less at float64. -/
def ltF (x y : Nat) : Bool := (nanF x && !nanF y) || (FloatKind.f64.format.order x y == some .lt)

set_option maxHeartbeats 1000000 in
theorem cmp_isNaN (x : Nat) (w : World) : Calls Try.prog 36 #[.float .f64 x] w fun e w' => e = .returned (.bool (nanF x)) ∧ w' = w := by
  go_enter Try.func36, Try.ntmps36
  go_wp2
  go_ret
  exact ⟨rfl, rfl⟩

set_option maxHeartbeats 1000000 in
/-- cmp.Less at float64. -/
theorem cmp_Less (x y : Nat) (w : World) : Calls Try.prog 26 #[.float .f64 x, .float .f64 y] w fun e w' => e = .returned (.bool (ltF x y)) ∧ w' = w := by
  go_enter Try.func26, Try.ntmps26
  go_wp2_with (go_at_call 36; refine (cmp_isNaN _ _).mono ?_; rintro e w' ⟨rfl, rfl⟩)
  all_goals go_ret
  all_goals refine ⟨?_, rfl⟩
  all_goals simp_all [ltF]

end Go.Proofs.Qxb6631213a
