/-
  strconv.AppendInt at base 10 at this program (13), in this seat's words.
-/
import Derived.Test.Qxb6630465aDoorShelf
import Derived.Test.Qxb6630465aDoorPpm
namespace Go.Proofs.Qxb6630465aDoor
open Go.RowKit

theorem appendIntC : AppendIntC := by
  intro wb B i hi v l w hS hlim hT
  have hc : Calls Tryd.prog 13 #[v, .int .i64 i, .int .i64 10] w fun e w' => ∃ v', e = .returned v' ∧ w'.ownsRow B 5 1 v' (l.length + (Lib.itoa i).length) (cz l ++ Lib.byteCells (Lib.itoa i)) ∧ Below B w w' ∧ Lib.OthersKept 5 none w w' :=
    Any.strconv_AppendInt_10 Tryd.lays176 B l.length i hi.1 hi.2 v (cz l) w hS.own hS.sz hlim (hT.on hS.bel)
  refine hc.mono ?_
  rintro e w' ⟨v', rfl, ho, hb, _⟩
  refine ⟨v', rfl, ?_, hS.bel.trans hb, hS.szb⟩
  have e1 : l.length + (Lib.itoa i).length = (l ++ bz (Lib.itoa i)).length := by simp [bz_length]
  rw [byteCells_eq, ← cz_append, e1] at ho
  exact ho

#print axioms appendIntC
end Go.Proofs.Qxb6630465aDoor
