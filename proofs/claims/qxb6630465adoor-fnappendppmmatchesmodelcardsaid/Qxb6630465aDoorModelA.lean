/-
  ppmModel (function 8): its small parts: the grid of hills; 'append(out, b...)'.
-/
import Derived.Test.Qxb6630465aDoorDec
import Derived.Laws.AppendOwnNone
namespace Go.Proofs.Qxb6630465aDoor
open Go.RowKit

/-- 'out = append(out, b...)', b a full slice -/
theorem wpList_appF {wb : World} {B : Nat} {w : World} {ops : Array Oper} {rest : List Oper} {o : Oper} {a : Act} {Q : Exit → Act → World → Prop} (hgd : o.guard = none) (sl x : Operand)
    (ho : o.op = .call { callee := .builtin .append, args := #[sl, x], argTypes := #[24, 24] })
    (v : Value) (l zs : List Int) (hsl : a.eval sl = v) (hS : St wb B w v l) (bv : Value) (hx : a.eval x = bv) (hF : Full w bv zs) (hl : l.length + zs.length ≤ 140737488355328)
    (h : ∀ v' w', St wb B w' v' (l ++ zs) → wpList Tryd.prog ops Q rest (a.put o.dst v') w') : wpList Tryd.prog ops Q (o :: rest) a w := by
  obtain ⟨i0, hi, hz0, hz1, hz2⟩ := info_parts info5
  rcases hF with ⟨rfl, rfl⟩ | ⟨g, rfl, hg, hc⟩
  · refine wpList_append_own_none hgd sl x 24 ho B 5 i0 1 Tryd.underlying24 hi v l.length (cz l) hsl hS.own hx ?_
    exact h v w (by simpa using hS)
  · refine wpList_append_own _ hgd sl x 24 ho B 5 i0 (.int .u8 0) 1 1 Tryd.underlying24 hi hz0 hz1 hz2 rfl (by decide) v l.length (cz l) hsl hS.own ⟨g, 0, none⟩ zs.length zs.length (cz zs) hx (by simp [cz_length]) (fun j u hj => by rw [Addr.add_lit]; simpa using hc j u hj) (cz_one zs) (by unfold maxLen; omega) (by omega) hS.sz ?_
    intro v' w' h1 h2 _
    have e : l.length + zs.length = (l ++ zs).length := by simp
    rw [← cz_append, e] at h1
    exact h v' w' (hS.next h1 h2)

/-- THE GRID OF HILLS: place i is set just where its square is on the list -/
def Grid (w : World) (bh nw : Nat) (W : Int) (ps : List (Int × Int)) : Prop :=
  ∃ cur : Array Value, w.heap[bh]? = some (.cells cur 4 (0, 0)) ∧ cur.size = nw ∧ ∀ i, i < nw → cur[i]? = some (.bool (decide (((i : Int) % W, (i : Int) / W) ∈ ps)))

theorem Grid.cell {w : World} {bh nw : Nat} {W : Int} {ps : List (Int × Int)} (h : Grid w bh nw W ps) (i : Nat) (hi : i < nw) : w.cell? ⟨bh, i, none⟩ = some (.bool (decide (((i : Int) % W, (i : Int) / W) ∈ ps))) ∧ w.frozen? ⟨bh, i, none⟩ = false := by
  obtain ⟨cur, hh, hs, hc⟩ := h
  exact ⟨by simp [World.cell?, hh, hc i hi], by simp [World.frozen?, hh]⟩

theorem Grid.skip {w : World} {bh nw : Nat} {W : Int} {ps : List (Int × Int)} (h : Grid w bh nw W ps) {x y : Int} (hno : ∀ i : Nat, i < nw → ¬ ((i : Int) % W = x ∧ (i : Int) / W = y)) : Grid w bh nw W (ps ++ [(x, y)]) := by
  obtain ⟨cur, hh, hs, hc⟩ := h
  refine ⟨cur, hh, hs, fun i hi => ?_⟩
  rw [hc i hi]
  have := hno i hi
  simp [this]

theorem Grid.put {w : World} {bh nw : Nat} {W : Int} {ps : List (Int × Int)} (h : Grid w bh nw W ps) {x y : Int} {m : Nat} (hm : m < nw) (hW : 0 < W) (h0 : 0 ≤ x) (h1 : x < W) (he : (m : Int) = y * W + x) :
    Grid (w.setCell ⟨bh, m, none⟩ (.bool true)) bh nw W (ps ++ [(x, y)]) := by
  obtain ⟨cur, hh, hs, hc⟩ := h
  have key : ∀ i : Nat, ((i : Int) % W = x ∧ (i : Int) / W = y) ↔ i = m := by
    intro i
    constructor
    · rintro ⟨rfl, rfl⟩
      have := Int.mul_ediv_add_emod (i : Int) W
      rw [Int.mul_comm] at this
      omega
    · rintro rfl
      rw [he]
      constructor
      · rw [Int.add_comm, Int.add_mul_emod_self_right, Int.emod_eq_of_lt h0 h1]
      · rw [Int.add_comm, Int.add_mul_ediv_right _ _ (by omega), Int.ediv_eq_zero_of_lt h0 h1]; omega
  refine ⟨_, heap_setCell_same _ bh m _ 4 _ hh, by simpa using hs, fun i hi => ?_⟩
  by_cases e : i = m
  · subst e
    rw [Array.getElem?_setIfInBounds_self_of_lt (by omega)]
    have := (key i).2 rfl
    simp [this]
  · rw [Array.getElem?_setIfInBounds_ne (by omega), hc i hi]
    have : ¬ ((i : Int) % W = x ∧ (i : Int) / W = y) := fun h => e ((key i).1 h)
    simp [this]

theorem Grid.kept {w w' : World} {bh nw : Nat} {W : Int} {ps : List (Int × Int)} {row : Option Nat} (h : Grid w bh nw W ps) (hg : w.grownBy w' row) (hne : some bh ≠ row) : Grid w' bh nw W ps := by
  obtain ⟨cur, hh, r⟩ := h
  exact ⟨cur, (hg.block bh (Array.getElem?_eq_some_iff.1 hh).1 hne).trans hh, r⟩
theorem Grid.alloc {w : World} {bh nw : Nat} {W : Int} {ps : List (Int × Int)} (h : Grid w bh nw W ps) (o : Obj) : Grid (w.alloc o) bh nw W ps := h.kept (World.grownBy_alloc w o none) (by simp)
theorem Grid.ne_row {w : World} {bh nw : Nat} {W : Int} {ps : List (Int × Int)} (h : Grid w bh nw W ps) {wb : World} {B : Nat} {v : Value} {l : List Int} (S : St wb B w v l) : some bh ≠ v.ownBlock := by
  obtain ⟨cur, hh, _⟩ := h
  rcases S.own.2 with ⟨rfl, _⟩ | ⟨g, cap, cur', rfl, _, hg, _⟩
  · simp [Value.ownBlock]
  · simp only [Value.ownBlock, ne_eq, Option.some.injEq]
    rintro rfl
    rw [hh] at hg
    cases hg

theorem St.setGrid {wb : World} {B : Nat} {w : World} {v : Value} {l : List Int} (h : St wb B w v l) {bh i nw : Nat} {W : Int} {ps : List (Int × Int)} (hG : Grid w bh nw W ps) (hB : B ≤ bh) (u : Value) : St wb B (w.setCell ⟨bh, i, none⟩ u) v l := by
  have hne := hG.ne_row h
  refine ⟨?_, h.bel.setCell (p := ⟨bh, i, none⟩) hB u, h.szb⟩
  obtain ⟨h1, h2⟩ := h.own
  refine ⟨h1, ?_⟩
  rcases h2 with h2 | ⟨g, cap, cur', rfl, hg, hh, r⟩
  · exact .inl h2
  · refine .inr ⟨g, cap, cur', rfl, hg, ?_, r⟩
    rw [heap_setCell_other _ _ _ _ (fun e => hne (by simp only at e; simp [Value.ownBlock, e]))]
    exact hh

/-- no square (i % W, i / W), i below n, is (x, y) -/
theorem no_square {W x y : Int} {n : Nat} (hW : 0 < W) (h : x < 0 ∨ W ≤ x ∨ y < 0 ∨ (n : Int) / W < y ∨ (n : Int) - y * W ≤ x) : ∀ i : Nat, i < n → ¬ ((i : Int) % W = x ∧ (i : Int) / W = y) := by
  rintro i hi ⟨rfl, rfl⟩
  have a0 : 0 ≤ (i : Int) % W := Int.emod_nonneg _ (by omega)
  have a1 : (i : Int) % W < W := Int.emod_lt_of_pos _ hW
  have a2 : 0 ≤ (i : Int) / W := Int.ediv_nonneg (by omega) (by omega)
  have a3 : (i : Int) / W ≤ (n : Int) / W := Int.ediv_le_ediv hW (by omega)
  have a4 := Int.mul_ediv_add_emod (i : Int) W
  rw [Int.mul_comm] at a4
  omega

end Go.Proofs.Qxb6630465aDoor
