/-
  No cell of these rows narrows 'for every input' (looked for: loops, veiled, ifaces, maps, wideKeys, modest, calm, conditions, laid).
  DERIVED. THE GIVEN ROWS OF THIS SEAT. 2 by the template 'for every input the law returns true; each argument reads behind the call as it read before'; 0 by the template 'total and deterministic' (their statements: Qxb6631213aTotals.lean).
  GIVEN WITH THE SEED: the statements are not yours to turn. If you find one false, say at which input.
  Laid BY PROGRAM, IN A SANDBOX (cutbox-rows.mjs): the forced cells as the released guide's own fill.sh prints them over the translation 30f15ac2620ef4ca… (all of the seat's roots in one cut). By AI agents, Wed Nov 11 2026. No macro, syntax, notation, axiom, sorry.
-/
import Derived.Test.Qxb6631213aChecked
import GoSem.Claim
import GoSem.ClaimJoined
import GoSem.ClaimMapViews
import Derived.JoinedTies
import Derived.KernelRfl
namespace Go.Proofs.Qxb6631213a
/- THE CELL 'sum', in the pinned program and in every row, IS THE sha256 OF THE DUMP (.gsa) THAT Qxb6631213aProg.lean LOADS. Nothing in Lean hashes anything: it is a label: what it is worth is what the hold of that sum in a sandbox is worth. -/
noncomputable def Try.pinned : Pinned := { name := "qxb6631213a", sum := "30f15ac2620ef4ca12312a4edcbfa7c976ee2e91bf605a8ad969884b9b0e8353", checked := Try.checked }
namespace Rows
def none {H : Type} : Left H := { results := [], args := [] }

/-- 'zzlaws_internal_sidebyside_b1.FnMedianRotationOrderStatistic': WHATEVER THE INPUT: true; the input reads as it did. -/
def fnMedianRotationOrderStatisticSpec : ChangeSpec := { name := "fnMedianRotationOrderStatistic", fn := fun _ => fun
  | [d1, d2] => { results := [.lit (.bool true)], args := [d1, d2] }
  | _ => none }
def fnMedianRotationOrderStatisticRow : OpenClaim := { program := "qxb6631213a", sum := "30f15ac2620ef4ca12312a4edcbfa7c976ee2e91bf605a8ad969884b9b0e8353", func := "example.com/seshat/seshat/zzlaws_internal_sidebyside_b1.FnMedianRotationOrderStatistic", spec := "fnMedianRotationOrderStatistic", unfollowed := true, recurses := true, apart := false }
def FnMedianRotationOrderStatisticSaid : Prop := fnMedianRotationOrderStatisticRow.holds Try.pinned (OpenSpec.ofChange fnMedianRotationOrderStatisticSpec)

/-- ITS FALSE NEIGHBOUR: 'it returns false'. Refute it at one input. -/
def fnMedianRotationOrderStatisticWrong : ChangeSpec := { name := "fnMedianRotationOrderStatistic", fn := fun _ => fun
  | [d1, d2] => { results := [.lit (.bool false)], args := [d1, d2] }
  | _ => none }
def FnMedianRotationOrderStatisticWrongFalsely : Prop := fnMedianRotationOrderStatisticRow.holds Try.pinned (OpenSpec.ofChange fnMedianRotationOrderStatisticWrong)

/-- 'zzlaws_internal_sidebyside_b1.FnMedianNegationAndBalance': WHATEVER THE INPUT: true; the input reads as it did. -/
def fnMedianNegationAndBalanceSpec : ChangeSpec := { name := "fnMedianNegationAndBalance", fn := fun _ => fun
  | [d] => { results := [.lit (.bool true)], args := [d] }
  | _ => none }
def fnMedianNegationAndBalanceRow : OpenClaim := { program := "qxb6631213a", sum := "30f15ac2620ef4ca12312a4edcbfa7c976ee2e91bf605a8ad969884b9b0e8353", func := "example.com/seshat/seshat/zzlaws_internal_sidebyside_b1.FnMedianNegationAndBalance", spec := "fnMedianNegationAndBalance", unfollowed := true, recurses := true, apart := false }
def FnMedianNegationAndBalanceSaid : Prop := fnMedianNegationAndBalanceRow.holds Try.pinned (OpenSpec.ofChange fnMedianNegationAndBalanceSpec)

/-- ITS FALSE NEIGHBOUR: 'it returns false'. Refute it at one input. -/
def fnMedianNegationAndBalanceWrong : ChangeSpec := { name := "fnMedianNegationAndBalance", fn := fun _ => fun
  | [d] => { results := [.lit (.bool false)], args := [d] }
  | _ => none }
def FnMedianNegationAndBalanceWrongFalsely : Prop := fnMedianNegationAndBalanceRow.holds Try.pinned (OpenSpec.ofChange fnMedianNegationAndBalanceWrong)

end Rows
end Go.Proofs.Qxb6631213a
