/-
  The two copies at each law's head ('zzc := make(..); copy(zzc, a)').
-/
import Derived.Test.Qxb6631243aParts
import Derived.Laws.CopyOwn
namespace Go.Proofs.Qxb6631243a
open Go.RowKit

theorem size5 : (Try.prog.info? 5).map (·.size) = some 1 := by kernel_rfl
theorem cz_length (zs : List Int) : (cz zs).length = zs.length := by simp [cz]
theorem cz_one (zs : List Int) : ∀ u ∈ cz zs, u.oneCell' = true := by
  intro u hu; simp [cz] at hu; obtain ⟨a, _, rfl⟩ := hu; rfl
theorem ownsRow_whole {w : World} {base g n : Nat} {e : TypeId} {xs : List Value} (h : w.ownsRow base e 1 (.slice (some ⟨g, 0, none⟩) n n) n xs) : w.heap[g]? = some (.cells xs.toArray e (0, 0)) ∧ xs.length = n := by
  obtain ⟨hl, h2⟩ := h
  rcases h2 with ⟨hv, _⟩ | ⟨g', cap, cur, hv, hb, hh, h1, h2, h3, h4⟩
  · cases hv
  · cases hv
    have e1 : cur.toList = xs := by rw [← h4]; exact (List.take_of_length_le (by simp; omega)).symm
    rw [← e1]
    exact ⟨by simpa using hh, by simp; omega⟩
theorem splice_all {α : Type} (L cs : List α) (h : L.length = cs.length) : splice L 0 cs = cs := by simp [splice, h]

/-- a slice that came in, not nil -/
def Row (w : World) (x : Addr) (n : Nat) (zs : List Int) : Prop := zs.length = n ∧ ∀ j, j < n → w.cell? (x.add j) = some (.int .u8 (zs.getD j 0))
theorem Row.cells {w w1 : World} {x : Addr} {n : Nat} {zs : List Int} (h : Row w x n zs) (hb : Below w.heap.size w w1) : ∀ j v, (cz zs)[j]? = some v → w1.cell? (x.add j) = some v := by
  intro j v hj
  have hj1 : j < zs.length := by have := (List.getElem?_eq_some_iff.1 hj).1; simpa [cz] using this
  have h1 := h.2 j (by have := h.1; omega)
  rw [cz_get _ _ hj1] at hj
  cases hj
  have hlt : (x.add j).block < w.heap.size := World.block_lt_of_cell? _ _ h1
  rw [hb.cell hlt]; exact h1
/-- the copy that was made -/
theorem made_has {w1 : World} {g n : Nat} {L : List Value} {zs : List Int} (hz : zs.length = n) (hL : L.length = n) (hh : w1.heap[g]? = some (.cells (splice L 0 (cz zs)).toArray 5 (0, 0))) : Has w1 (some ⟨g, 0, none⟩) n zs := by
  rw [splice_all _ _ (by rw [hL, cz_length, hz])] at hh
  refine ⟨hz, fun _ => ⟨g, 0, rfl, (Array.getElem?_eq_some_iff.1 hh).1, fun j hj => ?_⟩⟩
  simp only [World.cell?, hh, Nat.zero_add]
  have := cz_get zs j (by omega)
  simpa using this
theorem none_has (w : World) : Has w none 0 [] := ⟨rfl, fun h => by omega⟩

end Go.Proofs.Qxb6631243a
