/-
  zzBytes (functions 5 and 11): a bound on total length.
-/
import Derived.Test.Qxb6630465aDoorProg
import Derived.WalkKit
import Derived.Below
namespace Go.Proofs.Qxb6630465aDoor
open Go.RowKit

set_option maxHeartbeats 1600000 in
theorem zz5 (x0 x1 : Int) (a2 a3 a4 a5 : Option Addr) (n2 c2 n3 c3 n4 c4 n5 c5 : Nat) (w : World) :
    Calls Tryd.prog 5 #[.int .i64 x0, .int .i64 x1, .slice a2 n2 c2, .slice a3 n3 c3, .slice a4 n4 c4, .slice a5 n5 c5] w fun e w' =>
      ∃ r : Bool, e = .returned (.bool r) ∧ w = w' ∧ (r = true → n2 + n3 + n4 + n5 ≤ 1048576) := by
  go_enter Tryd.func5, Tryd.ntmps5
  go_wp2
  all_goals
    go_ret
    exact ⟨_, rfl, rfl, by intro _; first | contradiction | omega⟩

set_option maxHeartbeats 1600000 in
theorem zz11 (x0 x1 : Int) (a2 a3 a4 a5 : Option Addr) (n2 c2 n3 c3 n4 c4 n5 c5 : Nat) (w : World) :
    Calls Tryd.prog 11 #[.int .i64 x0, .int .i64 x1, .slice a2 n2 c2, .slice a3 n3 c3, .slice a4 n4 c4, .slice a5 n5 c5] w fun e w' =>
      ∃ r : Bool, e = .returned (.bool r) ∧ w = w' ∧ (r = true → n2 + n3 + n4 + n5 ≤ 1048576) := by
  go_enter Tryd.func11, Tryd.ntmps11
  go_wp2
  all_goals
    go_ret
    exact ⟨_, rfl, rfl, by intro _; first | contradiction | omega⟩

end Go.Proofs.Qxb6630465aDoor
