/-
  The map of hills (map[Point]bool) that AppendPPM makes: what its block is good for.
-/
import Derived.Test.Qxb6630465aDoorBuild
import Derived.Maps.OwnOps
import Derived.Maps.Views
import Derived.DeepKeys4
namespace Go.Proofs.Qxb6630465aDoor
open Go.RowKit Go.Maps

theorem laidOut : laidOutB Tryd.prog = true := by kernel_rfl
theorem row34 : (34 : TypeId) < Tryd.prog.types.size := of_decide_eq_true (by kernel_rfl)
theorem wide34 : (match Tryd.prog.underlying 34 with | some (.array _ _) | some (.struct _) => true | _ => false) = true := by rw [Tryd.underlying34]
theorem keyed34 : Keyed Tryd.prog 34 := Keyed.of_law (deep_law_laid laidOut (m := 2) (by omega) row34 (by kernel_rfl) wide34)
theorem keyType34 : Tryd.prog.keyType 34 = true := by kernel_rfl
theorem cells34 : Tryd.prog.cellsOf 34 = 2 := by kernel_rfl
theorem zero4 (w : World) : (zeroValue 4).run Tryd.prog w = .ok (.bool false) w := by kernel_rfl

def pt (x y : Int) : Value := .agg #[.int .i64 x, .int .i64 y]
def InI (x : Int) : Prop := -9223372036854775808 ≤ x ∧ x ≤ 9223372036854775807
def kl (x y : Int) : Lit := .string (keyBytes [.int .i64 x, .int .i64 y])

theorem wf_i64 {x : Int} (h : InI x) : (Lit.int .i64 x).wf = true := WalkArith.wf_i64 h

theorem cells3 : Tryd.prog.cellsOf 3 = 1 := by kernel_rfl
theorem fields34 : ∃ f0 f1, Tryd.prog.underlying 34 = some (.struct #[f0, f1]) ∧ f0.name ≠ "_" ∧ f1.name ≠ "_" ∧ f0.type = 3 ∧ f1.type = 3 ∧ f0.offset = 0 ∧ f1.offset = 1 :=
  ⟨_, _, Tryd.underlying34, by decide, by decide, rfl, rfl, rfl, rfl⟩

theorem keyLits_two {P : Program} {k t : TypeId} {f0 f1 : Field} (hu : P.underlying k = some (.struct #[f0, f1])) (n0 : f0.name ≠ "_") (n1 : f1.name ≠ "_") (t0 : f0.type = t) (t1 : f1.type = t) (o0 : f0.offset = 0) (o1 : f1.offset = 1)
    (hc : P.cellsOf k = 2) (ht : P.cellsOf t = 1) (hi : P.underlying t = some (.int .i64)) {x y : Int} (hx : (Lit.int .i64 x).wf = true) (hy : (Lit.int .i64 y).wf = true) (m : Nat) :
    P.keyLits (m + 1 + 1) k [.int .i64 x, .int .i64 y] = some [.int .i64 x, .int .i64 y] := by
  simp [Program.keyLits, hu, hc, n0, n1, t0, t1, o0, o1, ht, hi, hx, hy]

theorem keyOf_pt {x y : Int} (hx : InI x) (hy : InI y) : keyOf Tryd.prog 34 (pt x y) = some (kl x y) := by
  have hx' := wf_i64 hx
  have hy' := wf_i64 hy
  obtain ⟨f0, f1, hu, n0, n1, t0, t1, o0, o1⟩ := fields34
  have hf : (pt x y).formed Tryd.prog 34 = true := by simp [pt, Value.formed, hu, cells34]
  have hl : Tryd.prog.keyLits (Tryd.prog.types.size + 1) 34 (pt x y).cells.toList = some [.int .i64 x, .int .i64 y] := by
    have h34 : 34 < Tryd.prog.types.size := row34
    obtain ⟨m, hm⟩ : ∃ m, Tryd.prog.types.size + 1 = m + 1 + 1 := ⟨Tryd.prog.types.size - 1, by omega⟩
    rw [hm]
    exact keyLits_two hu n0 n1 t0 t1 o0 o1 cells34 cells3 Tryd.underlying3 hx' hy' m
  unfold keyOf
  rw [hu, keyType34, hf, hl]
  rfl

theorem kl_inj {x y x' y' : Int} (hx : InI x) (hy : InI y) (hx' : InI x') (hy' : InI y') (h : kl x y = kl x' y') : x = x' ∧ y = y' := by
  have := keyed34.inj (keyOf_pt hx hy) (by rw [h]; exact keyOf_pt hx' hy')
  simpa [pt] using this

/-- An element that reads as a bool's datum IS that bool. -/
theorem plainElem_bool_inv {H : Type} {P : Program} {e : TypeId} (he : P.underlying e = some .bool) {v : Value} {z : DataW H × List MemPlace} (h : plainElem P e v = some z) : ∃ b, v = .bool b ∧ z = (.lit (.bool b), []) := by
  unfold plainElem at h
  rw [he] at h
  cases v <;> simp at h
  exact ⟨_, rfl, h.symm⟩

/-- 'm[k]' (without 'ok') AT ELEMENTS THAT ARE BOOLS, at the operation: the bool is told ahead. -/
theorem wpList_lookup_own_bool {H : Type} {P : Program} (w : World) {ops : Array Oper} {rest : List Oper} {o : Oper} {a : Act} {Q : Exit → Act → World → Prop}
    (hg : o.guard = none) (m x : Operand) (t : TypeId) (hop : o.op = Op.lookup t m x false)
    (k e : TypeId) (K : Keyed P k) (ht : P.underlying t = some (.map k e)) (he : P.underlying e = some .bool) (hz : (zeroValue e).run P w = .ok (.bool false) w) (b n : Nat) (D : DataW H)
    (hm : a.eval m = .map (some b)) (hown : w.ownsMap P k (plainElem P e) b n D) (key : Value) (kl : Lit) (hx : a.eval x = key) (hkey : keyOf P k key = some kl)
    (c : Bool) (hc : D.atKey kl (.lit (.bool false)) = .lit (.bool c))
    (hK : wpList P ops Q rest (a.put o.dst (.bool c)) w) :
    wpList P ops Q (o :: rest) a w := by
  refine wpList_plain hg fun K' hK' => ?_
  obtain ⟨v, ps, hrun, hv⟩ := hown.lookup K ht hz (plainElem_bool he false) hkey
  obtain ⟨c', rfl, hc'⟩ := plainElem_bool_inv he hv
  simp only [Prod.mk.injEq] at hc'
  have hcc : c' = c := by
    have := hc'.1.symm.trans hc
    simpa using this
  subst hcc
  unfold Oper.wp
  simp [execOp, hop, hm, hx, hrun, Result.andThen]
  exact hK' _ _ hK

/-- BLOCK b IS THE MAP OF THE HILLS: it holds 'true' at just the points of the list. -/
def HillMap (w : World) (b n : Nat) (pts : List (Int × Int)) (D : DataW Unit) : Prop :=
  w.ownsMap Tryd.prog 34 (plainElem Tryd.prog 4) b n D ∧ IsMap D ∧ ∀ x y, InI x → InI y → D.atKey (kl x y) (.lit (.bool false)) = .lit (.bool (decide ((x, y) ∈ pts)))

theorem hillMap_made (w : World) : HillMap (w.alloc (.map #[] 0)) w.heap.size 0 [] (.map []) :=
  ⟨World.ownsMap_made w _ _ _, isMap_empty, fun x y _ _ => by simp [DataW.atKey]⟩

theorem HillMap.put {w w' : World} {b n : Nat} {pts : List (Int × Int)} {D : DataW Unit} (h : HillMap w b n pts D) {x y : Int} (hx : InI x) (hy : InI y)
    (hown : w'.ownsMap Tryd.prog 34 (plainElem Tryd.prog 4) b (n + 1) (D.put (kl x y) (.lit (.bool true)))) : HillMap w' b (n + 1) (pts ++ [(x, y)]) (D.put (kl x y) (.lit (.bool true))) := by
  obtain ⟨_, hm, hat⟩ := h
  refine ⟨hown, hm.put _ _, fun x' y' hx' hy' => ?_⟩
  by_cases e : x' = x ∧ y' = y
  · obtain ⟨rfl, rfl⟩ := e
    rw [atKey_put_same hm (keyed34.key (keyOf_pt hx hy))]
    simp
  · have hne : kl x' y' ≠ kl x y := fun hk => e (kl_inj hx' hy' hx hy hk)
    rw [atKey_put_other hne, hat x' y' hx' hy']
    simp [e]

theorem HillMap.kept {w w' : World} {b n : Nat} {pts : List (Int × Int)} {D : DataW Unit} {row : Option Nat} (h : HillMap w b n pts D) (hg : w.grownBy w' row) (hne : some b ≠ row) : HillMap w' b n pts D :=
  ⟨h.1.kept hg hne, h.2⟩
theorem HillMap.alloc {w : World} {b n : Nat} {pts : List (Int × Int)} {D : DataW Unit} (h : HillMap w b n pts D) (o : Obj) : HillMap (w.alloc o) b n pts D := ⟨h.1.alloc o, h.2⟩
theorem HillMap.drew {w : World} {b n : Nat} {pts : List (Int × Int)} {D : DataW Unit} (h : HillMap w b n pts D) : HillMap w.drew b n pts D := h

/-- the map's block is not a row's -/
theorem HillMap.ne_row {w : World} {b n : Nat} {pts : List (Int × Int)} {D : DataW Unit} (h : HillMap w b n pts D) {base : Nat} {e : TypeId} {size m : Nat} {v : Value} {xs : List Value} (hr : w.ownsRow base e size v m xs) : some b ≠ v.ownBlock := by
  obtain ⟨⟨es, clock, hb, _⟩, _⟩ := h
  rcases hr.2 with ⟨rfl, _⟩ | ⟨g, cap, cur, rfl, _, hh, _⟩
  · simp [Value.ownBlock]
  · simp only [Value.ownBlock, ne_eq, Option.some.injEq]
    intro e
    subst e
    rw [hb] at hh
    cases hh

end Go.Proofs.Qxb6630465aDoor
