/-
  ppmBuildMap (function 7).
-/
import Derived.Test.Qxb6630465aDoorClone
import Derived.RegionTactic
import Derived.ChangeAlike
namespace Go.Proofs.Qxb6630465aDoor
open Go.RowKit

theorem info34 : (Tryd.prog.info? 34).map (fun i => (i.zero, i.size, i.bytes)) = some (some (.agg #[.int .i64 0, .int .i64 0]), 2, 16) := by kernel_rfl

/-- hills[0 .. k) hold the points; the row has n places of two cells. -/
def Pts (w : World) (g n k : Nat) (xs ys : List Int) : Prop :=
  ∃ cur : Array Value, w.heap[g]? = some (.cells cur 34 (0, 0)) ∧ cur.size = n * 2 ∧ ∀ j, j < k → cur[j * 2]? = some (.int .i64 (xs.getD j 0)) ∧ cur[j * 2 + 1]? = some (.int .i64 (ys.getD j 0))

theorem Pts.step {w : World} {g n k : Nat} {xs ys : List Int} (h : Pts w g n k xs ys) (hk : k < n) :
    Pts ((w.setCell ⟨g, k * 2, none⟩ (.int .i64 (xs.getD k 0))).setCell ⟨g, k * 2 + 1, none⟩ (.int .i64 (ys.getD k 0))) g n (k + 1) xs ys := by
  obtain ⟨cur, hh, hs, hp⟩ := h
  refine ⟨_, heap_setCell_same _ g (k * 2 + 1) _ 34 _ (heap_setCell_same _ g (k * 2) _ 34 _ hh), by simpa using hs, ?_⟩
  intro j hj
  rcases Nat.lt_succ_iff_lt_or_eq.1 hj with hj | rfl
  · have := hp j hj
    constructor
    · rw [Array.getElem?_setIfInBounds_ne (by omega), Array.getElem?_setIfInBounds_ne (by omega)]; exact this.1
    · rw [Array.getElem?_setIfInBounds_ne (by omega), Array.getElem?_setIfInBounds_ne (by omega)]; exact this.2
  · constructor
    · rw [Array.getElem?_setIfInBounds_ne (by omega), Array.getElem?_setIfInBounds_self_of_lt (by omega)]
    · rw [Array.getElem?_setIfInBounds_self_of_lt (by simp; omega)]

theorem Pts.cells {w : World} {g n k : Nat} {xs ys : List Int} (h : Pts w g n k xs ys) (j : Nat) (hj : j < k) :
    w.cell? ⟨g, j * 2, none⟩ = some (.int .i64 (xs.getD j 0)) ∧ w.cell? ⟨g, j * 2 + 1, none⟩ = some (.int .i64 (ys.getD j 0)) := by
  obtain ⟨cur, hh, hs, hp⟩ := h
  exact ⟨by simpa [World.cell?, hh] using (hp j hj).1, by simpa [World.cell?, hh] using (hp j hj).2⟩

theorem Pts.there {w : World} {g n k : Nat} {xs ys : List Int} (h : Pts w g n k xs ys) (j : Nat) (hj : j < n * 2) :
    (∃ u, w.cell? ⟨g, j, none⟩ = some u) ∧ w.frozen? ⟨g, j, none⟩ = false := by
  obtain ⟨cur, hh, hs, hp⟩ := h
  exact ⟨⟨cur[j], by simp [World.cell?, hh]⟩, by simp [World.frozen?, hh]⟩

theorem Pts.other {w w' : World} {g n k : Nat} {xs ys : List Int} (h : Pts w g n k xs ys) (he : w'.heap[g]? = w.heap[g]?) : Pts w' g n k xs ys := by
  obtain ⟨cur, hh, hs, hp⟩ := h
  exact ⟨cur, he.trans hh, hs, hp⟩

set_option maxHeartbeats 1600000 in
theorem build7_some (W H : Int) (aw : Option Addr) (nw cw : Nat) (bx ox cx by_ oy cy n : Nat) (xs ys : List Int) (w : World) (hn : n ≤ 1048576)
    (hx : ∀ j, j < n → w.cell? ⟨bx, ox + j, none⟩ = some (.int .i64 (xs.getD j 0))) (hy : ∀ j, j < n → w.cell? ⟨by_, oy + j, none⟩ = some (.int .i64 (ys.getD j 0))) (hbx : bx < w.heap.size) (hby : by_ < w.heap.size) :
    Calls Tryd.prog 7 #[.int .i64 W, .int .i64 H, .slice aw nw cw, .slice (some ⟨bx, ox, none⟩) n cx, .slice (some ⟨by_, oy, none⟩) n cy] w fun e w' =>
      e = .returned (.agg #[.int .i64 W, .int .i64 H, .slice aw nw cw, .slice (some ⟨w.heap.size + 1, 0, none⟩) n n]) ∧ Pts w' (w.heap.size + 1) n n xs ys ∧ Below w.heap.size w w' := by
  obtain ⟨i0, hi, hz0, hz1, hz2⟩ := info_parts info34
  go_enter Tryd.func7, Tryd.ntmps7
  go_wp2_with (at_make; refine wpList_make_full _ rfl _ _ 27 rfl (w.heap.size + 1) 34 i0 (.agg #[.int .i64 0, .int .i64 0]) 2 Tryd.underlying27 hi hz0 hz1 .i64 .i64 (n : Int) (n : Int) n rfl rfl rfl rfl (by rw [hz2]; omega) (by unfold maxLen; omega) (by simp) ?_; intro w1 hown1 hg1)
  have hb1 : Below w.heap.size w w1 := by
    refine Below.grown ((Below.refl _ _).alloc (Nat.le_refl _) _) hg1 (by simp) (by intro k hk; cases hk)
  have hr1 : w1.heap[w.heap.size]? = some (.cells #[.int .i64 0, .int .i64 0, .slice none 0 0, .slice none 0 0] 29 (0, 0)) := by
    rw [hg1.block _ (by simp) (by simp)]; exact heap_alloc_new _ _
  have hp1 : Pts w1 (w.heap.size + 1) n 0 xs ys := by
    obtain ⟨hl, h2⟩ := hown1
    rcases h2 with ⟨hv, _⟩ | ⟨g', cap, cur, hv, hb, hh, h1, h2, h3, h4⟩
    · cases hv
    · cases hv
      exact ⟨cur, by simpa using hh, h3, fun j hj => absurd hj (by omega)⟩
  clear hown1 hg1
  go_loopw [12] (fun i wr => ∃ k : Nat, k ≤ n ∧ i = .int .i64 k ∧ Pts wr (w.heap.size + 1) n k xs ys ∧ Below w.heap.size w wr ∧ wr.heap[w.heap.size]? = some (.cells #[.int .i64 0, .int .i64 0, .slice none 0 0, .slice none 0 0] 29 (0, 0)))
    (fun i _ => n - (intOf i).toNat)
  case atStart => exact ⟨0, Nat.zero_le _, rfl, hp1, hb1, hr1⟩
  case round =>
    obtain ⟨k, hk, rfl, hpts, hnx, hres⟩ := hrel
    by_cases hlt : k < n
    · have hcx : wr.cell? ⟨bx, ox + k, none⟩ = some (.int .i64 (xs.getD k 0)) := (hnx.cell (by exact hbx)).trans (hx k hlt)
      have hcy : wr.cell? ⟨by_, oy + k, none⟩ = some (.int .i64 (ys.getD k 0)) := (hnx.cell (by exact hby)).trans (hy k hlt)
      obtain ⟨⟨u0, hu0⟩, hf0⟩ := hpts.there (k * 2) (by omega)
      obtain ⟨⟨u1, hu1⟩, hf1⟩ := hpts.there (k * 2 + 1) (by omega)
      have hst := hpts.step hlt
      have HST : Hid (Pts (World.drew ((wr.setCell ⟨w.heap.size + 1, k * 2, none⟩ (.int .i64 (xs.getD k 0))).setCell ⟨w.heap.size + 1, k * 2 + 1, none⟩ (.int .i64 (ys.getD k 0)))) (w.heap.size + 1) n (k + 1) xs ys) := hst.other rfl
      clear hst
      have HR : Hid (wr.heap[w.heap.size]? = some (.cells #[.int .i64 0, .int .i64 0, .slice none 0 0, .slice none 0 0] 29 (0, 0))) := hres
      clear hx hy hp1 hb1 hr1 hpts hres
      go_wp2
      go_region
      go_wp2
      go_roundw
      case rel =>
        refine ⟨k + 1, by omega, by go_num, by simpa using HST.out, ((hnx.setCell (p := ⟨w.heap.size + 1, k * 2, none⟩) (by simp) _).setCell (p := ⟨w.heap.size + 1, k * 2 + 1, none⟩) (by simp) _).drew, ?_⟩
        exact ((heap_setCell_other _ _ _ _ (by simp)).trans (heap_setCell_other _ _ _ _ (by simp))).trans HR.out
      case measure => simp [intOf]; omega
    · have hkn : k = n := by omega
      subst hkn
      have hu0 : wr.cell? ⟨w.heap.size, 0, none⟩ = some (.int .i64 0) := by simp [World.cell?, hres]
      have hu1 : wr.cell? ⟨w.heap.size, 1, none⟩ = some (.int .i64 0) := by simp [World.cell?, hres]
      have hu2 : wr.cell? ⟨w.heap.size, 2, none⟩ = some (.slice none 0 0) := by simp [World.cell?, hres]
      have hu3 : wr.cell? ⟨w.heap.size, 3, none⟩ = some (.slice none 0 0) := by simp [World.cell?, hres]
      have hf : ∀ j, wr.frozen? ⟨w.heap.size, j, none⟩ = false := fun j => by simp [World.frozen?, hres]
      clear hx hy hp1 hb1 hr1 hres
      go_wp2
      refine bodyPost_ret (v := .agg #[.int .i64 W, .int .i64 H, .slice aw nw cw, .slice (some ⟨w.heap.size + 1, 0, none⟩) k k]) (by simp [results, Tryd.results7, go_sem, hu0, hu1, hu2, hu3]) rfl ⟨rfl, ?_, ?_⟩
      · refine hpts.other ?_
        rw [heap_setCell_other _ _ _ _ (by simp), heap_setCell_other _ _ _ _ (by simp), heap_setCell_other _ _ _ _ (by simp), heap_setCell_other _ _ _ _ (by simp)]
      · exact (((hnx.setCell (Nat.le_refl _) _).setCell (Nat.le_refl _) _).setCell (Nat.le_refl _) _).setCell (Nat.le_refl _) _

set_option maxHeartbeats 1600000 in
theorem build7_zero (W H : Int) (aw : Option Addr) (nw cw : Nat) (ax ay : Option Addr) (cx cy : Nat) (xs ys : List Int) (w : World) :
    Calls Tryd.prog 7 #[.int .i64 W, .int .i64 H, .slice aw nw cw, .slice ax 0 cx, .slice ay 0 cy] w fun e w' =>
      e = .returned (.agg #[.int .i64 W, .int .i64 H, .slice aw nw cw, .slice (some ⟨w.heap.size + 1, 0, none⟩) 0 0]) ∧ Pts w' (w.heap.size + 1) 0 0 xs ys ∧ Below w.heap.size w w' := by
  obtain ⟨i0, hi, hz0, hz1, hz2⟩ := info_parts info34
  go_enter Tryd.func7, Tryd.ntmps7
  go_wp2_with (at_make; refine wpList_make_full _ rfl _ _ 27 rfl (w.heap.size + 1) 34 i0 (.agg #[.int .i64 0, .int .i64 0]) 2 Tryd.underlying27 hi hz0 hz1 .i64 .i64 (0 : Int) (0 : Int) 0 rfl rfl rfl rfl (by rw [hz2]; omega) (by unfold maxLen; omega) (by simp) ?_; intro w1 hown1 hg1)
  have hb1 : Below w.heap.size w w1 := by
    refine Below.grown ((Below.refl _ _).alloc (Nat.le_refl _) _) hg1 (by simp) (by intro k hk; cases hk)
  have hr1 : w1.heap[w.heap.size]? = some (.cells #[.int .i64 0, .int .i64 0, .slice none 0 0, .slice none 0 0] 29 (0, 0)) := by
    rw [hg1.block _ (by simp) (by simp)]; exact heap_alloc_new _ _
  have hp1 : Pts w1 (w.heap.size + 1) 0 0 xs ys := by
    obtain ⟨hl, h2⟩ := hown1
    rcases h2 with ⟨hv, _⟩ | ⟨g', cap, cur, hv, hb, hh, h1, h2, h3, h4⟩
    · cases hv
    · cases hv
      exact ⟨cur, by simpa using hh, h3, fun j hj => absurd hj (by omega)⟩
  clear hown1 hg1
  have hu0 : w1.cell? ⟨w.heap.size, 0, none⟩ = some (.int .i64 0) := by simp [World.cell?, hr1]
  have hu1 : w1.cell? ⟨w.heap.size, 1, none⟩ = some (.int .i64 0) := by simp [World.cell?, hr1]
  have hu2 : w1.cell? ⟨w.heap.size, 2, none⟩ = some (.slice none 0 0) := by simp [World.cell?, hr1]
  have hu3 : w1.cell? ⟨w.heap.size, 3, none⟩ = some (.slice none 0 0) := by simp [World.cell?, hr1]
  have hf : ∀ j, w1.frozen? ⟨w.heap.size, j, none⟩ = false := fun j => by simp [World.frozen?, hr1]
  clear hr1
  refine wp_loop_rounds 1 ?_
  rw [rounds_succ]
  go_wp2
  refine bodyPost_ret (v := .agg #[.int .i64 W, .int .i64 H, .slice aw nw cw, .slice (some ⟨w.heap.size + 1, 0, none⟩) 0 0]) (by simp [results, Tryd.results7, go_sem, hu0, hu1, hu2, hu3]) rfl ⟨rfl, ?_, ?_⟩
  · refine hp1.other ?_
    rw [heap_setCell_other _ _ _ _ (by simp), heap_setCell_other _ _ _ _ (by simp), heap_setCell_other _ _ _ _ (by simp), heap_setCell_other _ _ _ _ (by simp)]
  · exact (((hb1.setCell (Nat.le_refl _) _).setCell (Nat.le_refl _) _).setCell (Nat.le_refl _) _).setCell (Nat.le_refl _) _

/-- What is told of a slice of integers (kind k) that came in: its first n cells. -/
def Has (k : IntKind) (w : World) (a : Option Addr) (n : Nat) (zs : List Int) : Prop :=
  0 < n → ∃ b o, a = some ⟨b, o, none⟩ ∧ b < w.heap.size ∧ ∀ j, j < n → w.cell? ⟨b, o + j, none⟩ = some (.int k (zs.getD j 0))

theorem Has.below {k : IntKind} {w w' : World} {a : Option Addr} {n : Nat} {zs : List Int} (h : Has k w a n zs) (hb : Below w.heap.size w w') : Has k w' a n zs := by
  intro hn
  obtain ⟨b, o, ha, hlt, hc⟩ := h hn
  exact ⟨b, o, ha, Nat.lt_of_lt_of_le hlt hb.size, fun j hj => (hb.cell (p := ⟨b, o + j, none⟩) hlt).trans (hc j hj)⟩

theorem build7 (W H : Int) (aw : Option Addr) (nw cw : Nat) (ax ay : Option Addr) (cx cy n : Nat) (xs ys : List Int) (w : World) (hn : n ≤ 1048576) (hx : Has .i64 w ax n xs) (hy : Has .i64 w ay n ys) :
    Calls Tryd.prog 7 #[.int .i64 W, .int .i64 H, .slice aw nw cw, .slice ax n cx, .slice ay n cy] w fun e w' =>
      e = .returned (.agg #[.int .i64 W, .int .i64 H, .slice aw nw cw, .slice (some ⟨w.heap.size + 1, 0, none⟩) n n]) ∧ Pts w' (w.heap.size + 1) n n xs ys ∧ Below w.heap.size w w' := by
  rcases Nat.eq_zero_or_pos n with rfl | hp
  · exact build7_zero W H aw nw cw ax ay cx cy xs ys w
  · obtain ⟨bx, ox, rfl, hbx, hcx⟩ := hx hp
    obtain ⟨by_, oy, rfl, hby, hcy⟩ := hy hp
    exact build7_some W H aw nw cw bx ox cx by_ oy cy n xs ys w hn hcx hcy hbx hby

end Go.Proofs.Qxb6630465aDoor
