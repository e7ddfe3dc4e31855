/-
  Seat b6631213a. A slice of floats that came in, opened.
-/
import Derived.Test.Qxb6631213aRot
import Derived.Deep.Slices
import Derived.OpenShut
import Derived.ChangeOld
import Derived.ProofKit
namespace Go.Proofs.Qxb6631213a
open Go.RowKit Go.Proofs

theorem trod_float {H : Type} {enc : TypeId × Value → H} {P : Program} {w : World} {base : Nat} {spare : Nat → Bool} {held : Bool} {fuel : Nat} {e : TypeId} {k : FloatKind} {v : Value} {x : DataW H × List MemPlace}
    (he : P.underlying e = some (.float k)) (h : DataW.trod enc P w base spare held fuel e [v] = some x) : ∃ b, v = .float k b := by
  cases fuel with
  | zero => simp [DataW.trod] at h
  | succ n =>
    simp only [DataW.trod, he] at h
    cases v <;> simp at h
    rename_i k' b
    obtain ⟨⟨rfl, _⟩, _⟩ := h
    exact ⟨b, rfl⟩

def bitsOf : Value → Nat | .float _ b => b | _ => 0

/-- A slice of floats that came in: it is nil; or its elements are words in a row. -/
theorem open_words {H : Type} {enc : TypeId × Value → H} {w : World} {base : Nat} {spare : Nat → Bool} {held : Bool} {a : Option Addr} {len cap : Nat} {d : DataW H} {ps : List MemPlace}
    (h : DataW.Trod enc Try.prog w base spare held 22 (.slice a len cap) d ps) : (a = none ∧ len = 0) ∨ ∃ x zs, a = some x ∧ Row w x len zs := by
  obtain ⟨fuel, hf⟩ := h
  rcases Go.Deep.open_slice1 Try.underlying22 (by kernel_rfl) hf with ⟨hcs, _⟩ | ⟨x, l, c, m, n, V, D, Pl, hcs, _, hl, hm, hmm, _, hx⟩
  · simp [Value.cells] at hcs
    exact .inl ⟨hcs.1, hcs.2.1⟩
  · simp [Value.cells] at hcs
    obtain ⟨rfl, rfl, rfl⟩ := hcs
    have hlm : len ≤ m := by rw [hmm]; split <;> omega
    refine .inr ⟨x, (List.range len).map (fun i => bitsOf (V i)), rfl, by simp, fun j hj => ?_⟩
    obtain ⟨h1, h2⟩ := hx j (by omega)
    obtain ⟨b, hb⟩ := trod_float Try.underlying24 h2
    rw [h1, hb]
    simp [hj, hb, bitsOf]

end Go.Proofs.Qxb6631213a
