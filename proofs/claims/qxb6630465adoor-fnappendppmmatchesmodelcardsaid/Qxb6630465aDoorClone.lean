/-
  ppmCloneBytes (function 6).
-/
import Derived.Test.Qxb6630465aDoorRows
import Derived.WalkKit
import Derived.WalkSpells
import Derived.Below
import Derived.OwnWalk
import Derived.Laws.CopyOwn
namespace Go.Proofs.Qxb6630465aDoor
open Go.RowKit

/-- the name of strconv's table of powers of ten, as the given row lists it -/
def powName : String := Rows.fnAppendPPMMatchesModelRow.named.headD ""

/-- bytes (as numbers) as cells -/
def cz (zs : List Int) : List Value := zs.map (Value.int .u8)
theorem cz_length (zs : List Int) : (cz zs).length = zs.length := by simp [cz]
theorem cz_append (a b : List Int) : cz (a ++ b) = cz a ++ cz b := by simp [cz]
theorem cz_one (zs : List Int) : ∀ u ∈ cz zs, u.oneCell' = true := by
  intro u hu; simp [cz] at hu; obtain ⟨a, _, rfl⟩ := hu; rfl
theorem cz_get (zs : List Int) (j : Nat) (h : j < zs.length) : (cz zs)[j]? = some (.int .u8 (zs.getD j 0)) := by
  simp [cz, h]

/-- A slice of bytes whose capacity is its length (or nil), at the head of its block, and what it holds. -/
def Full (w : World) (v : Value) (zs : List Int) : Prop :=
  (v = .slice none 0 0 ∧ zs = []) ∨
  ∃ g, v = .slice (some ⟨g, 0, none⟩) zs.length zs.length ∧ g < w.heap.size ∧ ∀ j u, (cz zs)[j]? = some u → w.cell? ⟨g, j, none⟩ = some u

theorem Full.below {w w' : World} {v : Value} {zs : List Int} (h : Full w v zs) (hb : Below w.heap.size w w') : Full w' v zs := by
  rcases h with h | ⟨g, hv, hg, hc⟩
  · exact .inl h
  · exact .inr ⟨g, hv, Nat.lt_of_lt_of_le hg hb.size, fun j u hj => (hb.cell (p := ⟨g, j, none⟩) hg).trans (hc j u hj)⟩

/-- A row that owns all of its capacity.. -/
theorem info5 : (Tryd.prog.info? 5).map (fun i => (i.zero, i.size, i.bytes)) = some (some (.int .u8 0), 1, 1) := by kernel_rfl
theorem size5 : (Tryd.prog.info? 5).map (·.size) = some 1 := by kernel_rfl

set_option maxHeartbeats 1600000 in
theorem clone6_nil (w : World) :
    Calls Tryd.prog 6 #[.slice none 0 0] w fun e w' => e = .returned (.slice none 0 0) ∧ w' = w := by
  have hq := fun (w : World) => Lib.run_eql_slice_nil (P := Tryd.prog) w 24 5 none 0 0 0 0 Tryd.underlying24
  go_enter Tryd.func6, Tryd.ntmps6
  go_wp2
  go_ret
  exact ⟨rfl, rfl⟩


/-- A row that is owned up to its capacity IS its cells. -/
theorem ownsRow_whole {w : World} {base g n : Nat} {e : TypeId} {xs : List Value} (h : w.ownsRow base e 1 (.slice (some ⟨g, 0, none⟩) n n) n xs) : w.heap[g]? = some (.cells xs.toArray e (0, 0)) ∧ xs.length = n := by
  obtain ⟨hl, h2⟩ := h
  rcases h2 with ⟨hv, _⟩ | ⟨g', cap, cur, hv, hb, hh, h1, h2, h3, h4⟩
  · cases hv
  · cases hv
    have e1 : cur.toList = xs := by rw [← h4]; exact (List.take_of_length_le (by simp; omega)).symm
    rw [← e1]
    exact ⟨by simpa using hh, by simp; omega⟩

theorem cell_of_heap {w : World} {g : Nat} {xs : List Value} {e : TypeId} (h : w.heap[g]? = some (.cells xs.toArray e (0, 0))) (j : Nat) : w.cell? ⟨g, j, none⟩ = xs[j]? := by
  simp [World.cell?, h]

theorem splice_all {α : Type} (L cs : List α) (h : L.length = cs.length) : splice L 0 cs = cs := by
  simp [splice, h]

set_option maxHeartbeats 1600000 in
theorem clone6_some (x : Addr) (n c : Nat) (zs : List Int) (w : World) (hl : zs.length = n) (hn : n ≤ 1048576) (hc : ∀ j, j < n → w.cell? (x.add j) = some (.int .u8 (zs.getD j 0))) :
    Calls Tryd.prog 6 #[.slice (some x) n c] w fun e w' => e = .returned (.slice (some ⟨w.heap.size, 0, none⟩) n n) ∧ w'.heap[w.heap.size]? = some (.cells (cz zs).toArray 5 (0, 0)) ∧ Below w.heap.size w w' := by
  have hq := fun (w : World) => Lib.run_eql_slice_nil (P := Tryd.prog) w 24 5 (some x) n c 0 0 Tryd.underlying24
  obtain ⟨i0, hi, hz0, hz1, hz2⟩ := info_parts info5
  have hcz : ∀ w1, Below w.heap.size w w1 → ∀ j v, (cz zs)[j]? = some v → w1.cell? (x.add j) = some v := by
    intro w1 hb j v hj
    have hj1 : j < zs.length := by
      have := (List.getElem?_eq_some_iff.1 hj).1; simpa [cz] using this
    have h1 := hc j (by omega)
    rw [cz_get _ _ hj1] at hj
    cases hj
    have hlt : (x.add j).block < w.heap.size := World.block_lt_of_cell? _ _ h1
    rw [hb.cell hlt]; exact h1
  go_enter Tryd.func6, Tryd.ntmps6
  go_wp2_with (first
    | (at_make; refine wpList_make_full _ rfl _ _ 24 rfl w.heap.size 5 i0 (.int .u8 0) 1 Tryd.underlying24 hi hz0 hz1 .i64 .i64 (n : Int) (n : Int) n rfl rfl rfl rfl (by rw [hz2]; omega) (by unfold maxLen; omega) (Nat.le_refl _) ?_; intro w1 hown1 hg1)
    | (refine wpList_copy_splice rfl _ _ 24 24 rfl 5 Tryd.underlying24 size5 _ _ n n n c rfl rfl w.heap.size 0 _ 5 (ownsRow_whole hown1).1 (cz zs) (by simp [cz, hl]) (fun _ => ⟨rfl, x, rfl, hcz _ (Below.grown (Below.refl _ _) hg1 (Nat.le_refl _) (by intro k hk; cases hk))⟩) (by rw [(ownsRow_whole hown1).2]; simp [cz, hl]) (cz_one zs) w.heap.size w (Below.grown (Below.refl _ _) hg1 (Nat.le_refl _) (by intro k hk; cases hk)) (Nat.le_refl _) ?_; intro w2 hh hb))
  go_ret
  refine ⟨rfl, ?_, hb⟩
  have h1 := hh.out
  rw [splice_all _ _ (by rw [(ownsRow_whole hown1).2]; simp [cz, hl])] at h1
  exact h1

/-- ppmCloneBytes, whatever slice. -/
theorem clone6 (a : Option Addr) (n c : Nat) (zs : List Int) (w : World) (hl : zs.length = n) (hn : n ≤ 1048576) (hnil : a = none → n = 0 ∧ c = 0) (hc : ∀ x, a = some x → ∀ j, j < n → w.cell? (x.add j) = some (.int .u8 (zs.getD j 0))) :
    Calls Tryd.prog 6 #[.slice a n c] w fun e w' => ∃ v, e = .returned v ∧ Full w' v zs ∧ Below w.heap.size w w' := by
  cases a with
  | none =>
    obtain ⟨rfl, rfl⟩ := hnil rfl
    refine (clone6_nil w).mono ?_
    rintro e w' ⟨rfl, rfl⟩
    exact ⟨_, rfl, .inl ⟨rfl, List.eq_nil_of_length_eq_zero hl⟩, Below.refl _ _⟩
  | some x =>
    refine (clone6_some x n c zs w hl hn (hc x rfl)).mono ?_
    rintro e w' ⟨rfl, hh, hb⟩
    refine ⟨_, rfl, .inr ⟨w.heap.size, by rw [hl], ?_, fun j u hj => ?_⟩, hb⟩
    · exact (Array.getElem?_eq_some_iff.1 hh).1
    · rw [cell_of_heap hh]; exact hj

end Go.Proofs.Qxb6630465aDoor
