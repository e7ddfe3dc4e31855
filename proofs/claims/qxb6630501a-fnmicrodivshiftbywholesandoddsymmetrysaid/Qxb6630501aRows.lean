/-
  No cell of these rows narrows 'for every input' (looked for: loops, veiled, ifaces, maps, wideKeys, modest, calm, conditions, laid).
  DERIVED. THE GIVEN ROWS OF THIS SEAT. 2 by the template 'for every input the law returns true; each argument reads behind the call as it read before'; 0 by the template 'total and deterministic' (their statements: Qxb6630501aTotals.lean).
  GIVEN WITH THE SEED: the statements are not yours to turn. If you find one false, say at which input.
  Laid BY PROGRAM, IN A SANDBOX (cutbox-rows.mjs): the forced cells as the released guide's own fill.sh prints them over the translation 8fce83fb112da043… (all of the seat's roots in one cut). By AI agents, Wed Nov 11 2026. No macro, syntax, notation, axiom, sorry.
-/
import Derived.Test.Qxb6630501aChecked
import GoSem.Claim
import GoSem.ClaimJoined
import GoSem.ClaimMapViews
import Derived.JoinedTies
import Derived.KernelRfl
namespace Go.Proofs.Qxb6630501a
/- THE CELL 'sum', in the pinned program and in every row, IS THE sha256 OF THE DUMP (.gsa) THAT Qxb6630501aProg.lean LOADS. Nothing in Lean hashes anything: it is a label: what it is worth is what the hold of that sum in a sandbox is worth. -/
noncomputable def Try.pinned : Pinned := { name := "qxb6630501a", sum := "8fce83fb112da043b5192c100e6c86bea3f0ed47c2a91e3f42f9e5523c1d45f2", checked := Try.checked }
namespace Rows
def none {H : Type} : Left H := { results := [], args := [] }

/-- 'zzlaws_internal_fixed_b1.FnMicroDivNearestHalfAwayFromZero': WHATEVER THE INPUT: true; the input reads as it did. -/
def fnMicroDivNearestHalfAwayFromZeroSpec : ChangeSpec := { name := "fnMicroDivNearestHalfAwayFromZero", fn := fun _ => fun
  | [d1, d2] => { results := [.lit (.bool true)], args := [d1, d2] }
  | _ => none }
def fnMicroDivNearestHalfAwayFromZeroRow : OpenClaim := { program := "qxb6630501a", sum := "8fce83fb112da043b5192c100e6c86bea3f0ed47c2a91e3f42f9e5523c1d45f2", func := "example.com/ledgervane/ledgervane/zzlaws_internal_fixed_b1.FnMicroDivNearestHalfAwayFromZero", spec := "fnMicroDivNearestHalfAwayFromZero", apart := false }
def FnMicroDivNearestHalfAwayFromZeroSaid : Prop := fnMicroDivNearestHalfAwayFromZeroRow.holds Try.pinned (OpenSpec.ofChange fnMicroDivNearestHalfAwayFromZeroSpec)

/-- ITS FALSE NEIGHBOUR: 'it returns false'. Refute it at one input. -/
def fnMicroDivNearestHalfAwayFromZeroWrong : ChangeSpec := { name := "fnMicroDivNearestHalfAwayFromZero", fn := fun _ => fun
  | [d1, d2] => { results := [.lit (.bool false)], args := [d1, d2] }
  | _ => none }
def FnMicroDivNearestHalfAwayFromZeroWrongFalsely : Prop := fnMicroDivNearestHalfAwayFromZeroRow.holds Try.pinned (OpenSpec.ofChange fnMicroDivNearestHalfAwayFromZeroWrong)

/-- 'zzlaws_internal_fixed_b1.FnMicroDivShiftByWholesAndOddSymmetry': WHATEVER THE INPUT: true; the input reads as it did. -/
def fnMicroDivShiftByWholesAndOddSymmetrySpec : ChangeSpec := { name := "fnMicroDivShiftByWholesAndOddSymmetry", fn := fun _ => fun
  | [d1, d2, d3] => { results := [.lit (.bool true)], args := [d1, d2, d3] }
  | _ => none }
def fnMicroDivShiftByWholesAndOddSymmetryRow : OpenClaim := { program := "qxb6630501a", sum := "8fce83fb112da043b5192c100e6c86bea3f0ed47c2a91e3f42f9e5523c1d45f2", func := "example.com/ledgervane/ledgervane/zzlaws_internal_fixed_b1.FnMicroDivShiftByWholesAndOddSymmetry", spec := "fnMicroDivShiftByWholesAndOddSymmetry", apart := false }
def FnMicroDivShiftByWholesAndOddSymmetrySaid : Prop := fnMicroDivShiftByWholesAndOddSymmetryRow.holds Try.pinned (OpenSpec.ofChange fnMicroDivShiftByWholesAndOddSymmetrySpec)

/-- ITS FALSE NEIGHBOUR: 'it returns false'. Refute it at one input. -/
def fnMicroDivShiftByWholesAndOddSymmetryWrong : ChangeSpec := { name := "fnMicroDivShiftByWholesAndOddSymmetry", fn := fun _ => fun
  | [d1, d2, d3] => { results := [.lit (.bool false)], args := [d1, d2, d3] }
  | _ => none }
def FnMicroDivShiftByWholesAndOddSymmetryWrongFalsely : Prop := fnMicroDivShiftByWholesAndOddSymmetryRow.holds Try.pinned (OpenSpec.ofChange fnMicroDivShiftByWholesAndOddSymmetryWrong)

end Rows
end Go.Proofs.Qxb6630501a
