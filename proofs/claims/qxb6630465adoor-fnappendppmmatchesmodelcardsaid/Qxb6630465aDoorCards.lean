/-
  DERIVED. GIVEN WITH THE SEED: THE CARDS: each row of Qxb6630465aDoorRows.lean that lists a variable, with what it lists TIED to the program's text (the seventh form; the later family's looks); each row that meets fmt, with fmt's text TOLD by the authors' own Lean function (tested against real Go, not proved from fmt's source: count such statements apart). THE CARD IS WHAT COUNTS. Prove the row's statement (the work); the ties are given (Qxb6630465aDoorTie.lean); close each card by the builder's one call (the guide's Derived/Test/ToyasCard.lean, 'card_holds'). Laid BY PROGRAM, IN A SANDBOX (cutbox-door.mjs). By AI agents, Wed Nov 11 2026. No macro, syntax, notation, axiom, sorry.
-/
import Derived.Test.Qxb6630465aDoorRows
import GoSem.ClaimSeven
namespace Go.Proofs.Qxb6630465aDoor
namespace Rows

/-- THE TIED CARD OF 'zzlaws_pkg_antwars_b1.FnAppendPPMMatchesModel'. -/
def fnAppendPPMMatchesModelCard : Claim7 := { stood := { row := fnAppendPPMMatchesModelRow, standIns := [], harness := (true, "dbe2362cfbf83616df580d505acff2beeac7d030533ae55f0f4aa1a241ba675d"), looks := false }, kinds := [], alts := [], laidByText := true, laidKinds := [.data, .data, .data], laidTests := true, laidLooks := .later }
def FnAppendPPMMatchesModelCardSaid : Prop := Claim7.holds Tryd.pinned (.plain (OpenSpec.ofChange fnAppendPPMMatchesModelSpec)) fnAppendPPMMatchesModelCard

/-- THE TIED CARD OF 'zzlaws_pkg_antwars_b1.FnAppendPPMAppendsAndKeepsLinesShort'. -/
def fnAppendPPMAppendsAndKeepsLinesShortCard : Claim7 := { stood := { row := fnAppendPPMAppendsAndKeepsLinesShortRow, standIns := [], harness := (true, "dbe2362cfbf83616df580d505acff2beeac7d030533ae55f0f4aa1a241ba675d"), looks := false }, kinds := [], alts := [], laidByText := true, laidKinds := [.data, .data, .data], laidTests := true, laidLooks := .later }
def FnAppendPPMAppendsAndKeepsLinesShortCardSaid : Prop := Claim7.holds Tryd.pinned (.plain (OpenSpec.ofChange fnAppendPPMAppendsAndKeepsLinesShortSpec)) fnAppendPPMAppendsAndKeepsLinesShortCard
end Rows
end Go.Proofs.Qxb6630465aDoor
