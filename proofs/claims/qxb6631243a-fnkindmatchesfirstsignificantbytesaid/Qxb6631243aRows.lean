/-
  No cell of these rows narrows 'for every input' (looked for: loops, veiled, ifaces, maps, wideKeys, modest, calm, conditions, laid).
  DERIVED. THE GIVEN ROWS OF THIS SEAT. 2 by the template 'for every input the law returns true; each argument reads behind the call as it read before'; 0 by the template 'total and deterministic' (their statements: Qxb6631243aTotals.lean).
  GIVEN WITH THE SEED: the statements are not yours to turn. If you find one false, say at which input.
  Laid BY PROGRAM, IN A SANDBOX (cutbox-rows.mjs): the forced cells as the released guide's own fill.sh prints them over the translation bec2f2bfe4a82b75… (all of the seat's roots in one cut). By AI agents, Wed Nov 11 2026. No macro, syntax, notation, axiom, sorry.
-/
import Derived.Test.Qxb6631243aChecked
import GoSem.Claim
import GoSem.ClaimJoined
import GoSem.ClaimMapViews
import Derived.JoinedTies
import Derived.KernelRfl
namespace Go.Proofs.Qxb6631243a
/- THE CELL 'sum', in the pinned program and in every row, IS THE sha256 OF THE DUMP (.gsa) THAT Qxb6631243aProg.lean LOADS. Nothing in Lean hashes anything: it is a label: what it is worth is what the hold of that sum in a sandbox is worth. -/
noncomputable def Try.pinned : Pinned := { name := "qxb6631243a", sum := "bec2f2bfe4a82b750d38147f0ed39565500be043cb6d40065ba61e20f007dd92", checked := Try.checked }
namespace Rows
def none {H : Type} : Left H := { results := [], args := [] }

/-- 'zzlaws_jsonobj_b1.FnKindMatchesFirstSignificantByte': WHATEVER THE INPUT: true; the input reads as it did. -/
def fnKindMatchesFirstSignificantByteSpec : ChangeSpec := { name := "fnKindMatchesFirstSignificantByte", fn := fun _ => fun
  | [d1, d2] => { results := [.lit (.bool true)], args := [d1, d2] }
  | _ => none }
def fnKindMatchesFirstSignificantByteRow : OpenClaim := { program := "qxb6631243a", sum := "bec2f2bfe4a82b750d38147f0ed39565500be043cb6d40065ba61e20f007dd92", func := "example.com/didstone/didstone/zzlaws_jsonobj_b1.FnKindMatchesFirstSignificantByte", spec := "fnKindMatchesFirstSignificantByte", apart := false }
def FnKindMatchesFirstSignificantByteSaid : Prop := fnKindMatchesFirstSignificantByteRow.holds Try.pinned (OpenSpec.ofChange fnKindMatchesFirstSignificantByteSpec)

/-- ITS FALSE NEIGHBOUR: 'it returns false'. Refute it at one input. -/
def fnKindMatchesFirstSignificantByteWrong : ChangeSpec := { name := "fnKindMatchesFirstSignificantByte", fn := fun _ => fun
  | [d1, d2] => { results := [.lit (.bool false)], args := [d1, d2] }
  | _ => none }
def FnKindMatchesFirstSignificantByteWrongFalsely : Prop := fnKindMatchesFirstSignificantByteRow.holds Try.pinned (OpenSpec.ofChange fnKindMatchesFirstSignificantByteWrong)

/-- 'zzlaws_jsonobj_b1.FnKindDecidedByPrefix': WHATEVER THE INPUT: true; the input reads as it did. -/
def fnKindDecidedByPrefixSpec : ChangeSpec := { name := "fnKindDecidedByPrefix", fn := fun _ => fun
  | [d1, d2] => { results := [.lit (.bool true)], args := [d1, d2] }
  | _ => none }
def fnKindDecidedByPrefixRow : OpenClaim := { program := "qxb6631243a", sum := "bec2f2bfe4a82b750d38147f0ed39565500be043cb6d40065ba61e20f007dd92", func := "example.com/didstone/didstone/zzlaws_jsonobj_b1.FnKindDecidedByPrefix", spec := "fnKindDecidedByPrefix", apart := false }
def FnKindDecidedByPrefixSaid : Prop := fnKindDecidedByPrefixRow.holds Try.pinned (OpenSpec.ofChange fnKindDecidedByPrefixSpec)

/-- ITS FALSE NEIGHBOUR: 'it returns false'. Refute it at one input. -/
def fnKindDecidedByPrefixWrong : ChangeSpec := { name := "fnKindDecidedByPrefix", fn := fun _ => fun
  | [d1, d2] => { results := [.lit (.bool false)], args := [d1, d2] }
  | _ => none }
def FnKindDecidedByPrefixWrongFalsely : Prop := fnKindDecidedByPrefixRow.holds Try.pinned (OpenSpec.ofChange fnKindDecidedByPrefixWrong)

end Rows
end Go.Proofs.Qxb6631243a
