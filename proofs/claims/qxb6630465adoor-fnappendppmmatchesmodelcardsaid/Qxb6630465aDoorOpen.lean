/-
  From the row's words to the walk's: the six arguments opened, the listed table read.
-/
import Derived.Test.Qxb6630465aDoorShortWalk
import Derived.ProofKit
import Derived.LaidMore
import Derived.OpenShut
import Derived.Stop.Joined
import Derived.Deep.Grids
import Derived.Lib.LaidTab
import Derived.ChangeOld
namespace Go.Proofs.Qxb6630465aDoor
open Go.ChangeShapes Go.WideShapes Go.ChangeAt Go.RowKit Go.Deep

theorem own : ownKnob Tryd.prog.godebug = none := by kernel_rfl

/-- the listed variables, as the given rows list them -/
def laid3 : List (String × DataW Unit) := Rows.fnAppendPPMMatchesModelRow.laid

theorem door_met (os : Os) (args : Array Value) : laidMetH Tryd.prog laid3 ((World.doorLaid Tryd.prog 400 os).forCall (fun _ _ => 0) ⟨#[], args, []⟩).memory :=
  laidMetH_of_parts3 (fuel := 8) (laidMet_of_run' 8 (by kernel_rfl) (by kernel_rfl)) (by kernel_rfl) (by kernel_rfl)

theorem gPow : Tryd.prog.globalNamed powName = some 0 := by kernel_rfl
theorem tPow : (Tryd.prog.globals[0]?).map (·.type) = some 49 := by kernel_rfl
theorem c38 : Tryd.prog.cellsOf 38 = 1 := by kernel_rfl
theorem c49 : Tryd.prog.cellsOf 49 = 20 := by kernel_rfl
theorem pow_is : (Rows.laid_internal_strconv_uint64pow10 : DataW Unit) = Lib.tabData .u64 Lib.pow10Tab := by
  simp [Rows.laid_internal_strconv_uint64pow10, Lib.tabData, Lib.pow10Tab, List.range, List.range.loop]

/-- THE LISTED TABLE OF POWERS READS AS strconv's CONTRACT WANTS IT. -/
theorem tab_of_laid {W : World} (h : laidMetH Tryd.prog laid3 W) : Lib.TabIs Tryd.prog W powName .u64 Lib.pow10Tab := by
  rw [MakeChecks.laidMetH_plain _ _ _ (by kernel_rfl)] at h
  obtain ⟨ps, ⟨g0, t0, cs0, f0, p0, q0, hg0, ht0, hv0, hd0, ⟨g1, t1, cs1, f1, p1, q1, hg1, ht1, hv1, hd1, ⟨g2, t2, cs2, f2, p2, q2, hg2, ht2, hv2, hd2, _, _⟩, _⟩, _⟩, _, _⟩ := h
  obtain rfl := Option.some.inj (gPow.symm.trans hg2)
  obtain rfl := Option.some.inj (tPow.symm.trans ht2)
  unfold Lib.TabIs
  rw [pow_is] at hd2
  have hc := Lib.cells_of_tab Tryd.underlying49 Tryd.underlying38 c38 c49 hd2
  have hv : W.var? Tryd.prog powName = some cs2 := hv2
  rw [hv, ← hc]

theorem inI_of_wf {x : Int} (h : (Lit.int .i64 x).wf = true) : InI x := by
  simp [Lit.wf, IntKind.min, IntKind.max, IntKind.signed, IntKind.bits] at h
  exact ⟨by omega, by omega⟩

/-- a slice of integers that came in -/
theorem has_of_row {k : IntKind} {W : World} {x : Addr} {n : Nat} {zs : List Int} (hn : n ≤ zs.length) (hc : ∀ i, i < zs.length → W.cell? (x.add i) = some (.int k (zs.getD i 0))) : Has k W (some x) n zs := by
  intro hp
  have h0 := hc 0 (by omega)
  have hs : x.spot = none := by simpa [Addr.add] using World.cell?_spot h0
  have hl := World.block_lt_of_cell? _ _ h0
  obtain ⟨b, o, sp⟩ := x
  simp only at hs
  subst hs
  exact ⟨b, o, rfl, by simpa [Addr.add] using hl, fun j hj => by rw [← add_plain]; exact hc j (by omega)⟩

theorem hasB_of_row {W : World} {x : Addr} {n c : Nat} {B : Nat → Bool} (hn : n ≤ c) (hc : ∀ i, i < c → W.cell? (x.add i) = some (.bool (B i))) : HasB W (some x) n ((List.range n).map B) := by
  intro hp
  have h0 := hc 0 (by omega)
  have hs : x.spot = none := by simpa [Addr.add] using World.cell?_spot h0
  have hl := World.block_lt_of_cell? _ _ h0
  obtain ⟨b, o, sp⟩ := x
  simp only at hs
  subst hs
  exact ⟨b, o, rfl, by simpa [Addr.add] using hl, fun j hj => by rw [← add_plain, hc j (by omega)]; simp [hj]⟩

section
variable {H : Type} {enc : TypeId × Value → H} {W : World}

theorem open_i64s {a : Option Addr} {n c fuel : Nat} {d : DataW H} {p : List MemPlace} (h : DataW.trod enc Tryd.prog W 0 (fun _ => true) true fuel 23 (Value.slice a n c).cells.toList = some (d, p)) :
    ∃ zs : List Int, Has .i64 W a n zs ∧ ∀ j, j < n → InI (zs.getD j 0) := by
  rcases open_ints Tryd.underlying23 Tryd.underlying3 cells3 h with ⟨hcs, _⟩ | ⟨x, l, c', zs, hcs, _, hl, hm, hz, _, hcell, hwz⟩
  · simp [Value.cells] at hcs
    obtain ⟨rfl, rfl, rfl⟩ := hcs
    exact ⟨[], fun h => by omega, fun j hj => by omega⟩
  · simp [Value.cells] at hcs
    obtain ⟨rfl, rfl, rfl⟩ := hcs
    simp only [if_true] at hz
    refine ⟨zs, has_of_row (by omega) hcell, fun j hj => inI_of_wf (hwz _ ?_)⟩
    have hj' : j < zs.length := by omega
    simp [hj']

theorem open_bls {a : Option Addr} {n c fuel : Nat} {d : DataW H} {p : List MemPlace} (h : DataW.trod enc Tryd.prog W 0 (fun _ => true) true fuel 22 (Value.slice a n c).cells.toList = some (d, p)) :
    ∃ wat : List Bool, HasB W a n wat := by
  rcases open_bools Tryd.underlying22 Tryd.underlying4 (by kernel_rfl) h with ⟨hcs, _⟩ | ⟨x, l, c', B, hcs, _, hl, hm, _, hcell⟩
  · simp [Value.cells] at hcs
    obtain ⟨rfl, rfl, rfl⟩ := hcs
    exact ⟨[], fun h => by omega⟩
  · simp [Value.cells] at hcs
    obtain ⟨rfl, rfl, rfl⟩ := hcs
    exact ⟨_, hasB_of_row hl hcell⟩

theorem open_u8s {a : Option Addr} {n c fuel : Nat} {d : DataW H} {p : List MemPlace} (h : DataW.trod enc Tryd.prog W 0 (fun _ => true) true fuel 24 (Value.slice a n c).cells.toList = some (d, p)) :
    ∃ zs : List Int, zs.length = n ∧ (a = none → n = 0 ∧ c = 0) ∧ ∀ x, a = some x → ∀ j, j < n → W.cell? (x.add j) = some (.int .u8 (zs.getD j 0)) := by
  rcases open_ints Tryd.underlying24 Tryd.underlying5 (by kernel_rfl) h with ⟨hcs, _⟩ | ⟨x, l, c', zs, hcs, _, hl, hm, hz, _, hcell, hwz⟩
  · simp [Value.cells] at hcs
    obtain ⟨rfl, rfl, rfl⟩ := hcs
    exact ⟨[], rfl, fun _ => ⟨rfl, rfl⟩, fun x hx => by cases hx⟩
  · simp [Value.cells] at hcs
    obtain ⟨rfl, rfl, rfl⟩ := hcs
    simp only [if_true] at hz
    refine ⟨zs.take n, by simp; omega, (fun h => by simp at h), fun y hy j hj => ?_⟩
    cases hy
    rw [hcell j (by omega)]
    simp [hj]

end

end Go.Proofs.Qxb6630465aDoor
