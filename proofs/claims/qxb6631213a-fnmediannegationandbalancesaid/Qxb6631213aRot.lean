/-
  Seat b6631213a. FnMedianRotationOrderStatistic (3): the walk.
-/
import Derived.Test.Qxb6631213aPlain
import Derived.Laws.CopyOwn
import Derived.Laws.AppendOwn
import Derived.OwnWalk
import Derived.WalkSpells
namespace Go.Proofs.Qxb6631213a
open Go.RowKit Go.Sort Go.Proofs

theorem size24 : (Try.prog.info? 24).map (·.size) = some 1 := by kernel_rfl

def cf (zs : List Nat) : List Value := zs.map encF
theorem cf_length (zs : List Nat) : (cf zs).length = zs.length := by simp [cf]
theorem cf_one (zs : List Nat) : ∀ u ∈ cf zs, u.oneCell' = true := by
  intro u hu; simp [cf] at hu; obtain ⟨a, _, rfl⟩ := hu; rfl
theorem cf_get (zs : List Nat) (j : Nat) (h : j < zs.length) : (cf zs)[j]? = some (.float .f64 (zs[j]?.getD 0)) := by
  simp [cf, h]

theorem ownsRow_whole {w : World} {base g n : Nat} {e : TypeId} {xs : List Value} (h : w.ownsRow base e 1 (.slice (some ⟨g, 0, none⟩) n n) n xs) : w.heap[g]? = some (.cells xs.toArray e (0, 0)) ∧ xs.length = n := by
  obtain ⟨hl, h2⟩ := h
  rcases h2 with ⟨hv, _⟩ | ⟨g', cap, cur, hv, hb, hh, h1, h2, h3, h4⟩
  · cases hv
  · cases hv
    have e1 : cur.toList = xs := by rw [← h4]; exact (List.take_of_length_le (by simp; omega)).symm
    rw [← e1]
    exact ⟨by simpa using hh, by simp; omega⟩
theorem splice_all {α : Type} (L cs : List α) (h : L.length = cs.length) : splice L 0 cs = cs := by simp [splice, h]

/-- a slice of words that came in, not nil -/
def Row (w : World) (x : Addr) (n : Nat) (zs : List Nat) : Prop := zs.length = n ∧ ∀ j, j < n → w.cell? (x.add j) = some (.float .f64 (zs[j]?.getD 0))
theorem Row.cells {w w1 : World} {x : Addr} {n : Nat} {zs : List Nat} (h : Row w x n zs) (hb : RowKit.Below w.heap.size w w1) : ∀ j v, (cf zs)[j]? = some v → w1.cell? (x.add j) = some v := by
  intro j v hj
  have hj1 : j < zs.length := by have := (List.getElem?_eq_some_iff.1 hj).1; simpa [cf] using this
  have h1 := h.2 j (by have := h.1; omega)
  rw [cf_get _ _ hj1] at hj
  cases hj
  have hlt : (x.add j).block < w.heap.size := World.block_lt_of_cell? _ _ h1
  rw [hb.cell hlt]; exact h1

/-- The words zs lie in block g from off on. -/
def Lies (w : World) (g off : Nat) (zs : List Nat) : Prop := g < w.heap.size ∧ ∀ j, j < zs.length → w.cell? ⟨g, off + j, none⟩ = some (.float .f64 (zs[j]?.getD 0))
theorem Lies.below {w w1 : World} {g off : Nat} {zs : List Nat} (h : Lies w g off zs) (hb : RowKit.Below w.heap.size w w1) : Lies w1 g off zs :=
  ⟨Nat.lt_of_lt_of_le h.1 hb.size, fun j hj => (hb.cell (p := ⟨g, off + j, none⟩) h.1).trans (h.2 j hj)⟩

theorem made_lies {w1 : World} {g : Nat} {L : List Value} {zs : List Nat} (hL : L.length = zs.length) (hh : w1.heap[g]? = some (.cells (splice L 0 (cf zs)).toArray 24 (0, 0))) : Lies w1 g 0 zs := by
  rw [splice_all _ _ (by rw [hL, cf_length])] at hh
  refine ⟨(Array.getElem?_eq_some_iff.1 hh).1, fun j hj => ?_⟩
  simp only [World.cell?, hh, Nat.zero_add]
  have := cf_get zs j hj
  simpa using this

theorem owned_lies {w1 : World} {base n : Nat} {v : Value} {zs : List Nat} (hn : zs.length = n) (hz : zs ≠ []) (h : w1.ownsRow base 24 1 v n (cf zs)) : ∃ g cap, v = .slice (some ⟨g, 0, none⟩) n cap ∧ Lies w1 g 0 zs ∧ base ≤ g := by
  obtain ⟨g, cap, cur, rfl, hg, hcur, q1, q2, q3, q4⟩ := (h.2).resolve_left (fun h => hz (List.length_eq_zero_iff.1 (by omega)))
  have hH := holds_of_blockF (ss := zs) hcur (by rw [hn]; simpa [cf] using q4)
  refine ⟨g, cap, rfl, ⟨(Array.getElem?_eq_some_iff.1 hcur).1, fun j hj => ?_⟩, hg⟩
  have := (hH j (by simpa using hj)).1
  simpa [hj] using this

theorem zz5 (a : Option Addr) (n c : Nat) (k : Int) (w : World) :
    Calls Try.prog 5 #[.slice a n c, .int .i64 k] w fun e w' => ∃ r : Bool, e = .returned (.bool r) ∧ w = w' := by
  go_enter Try.func5, Try.ntmps5
  go_wp2
  all_goals
    go_ret
    exact ⟨_, rfl, rfl⟩

theorem zz9 (a : Option Addr) (n c : Nat) (w : World) :
    Calls Try.prog 9 #[.slice a n c] w fun e w' => ∃ r : Bool, e = .returned (.bool r) ∧ w = w' := by
  go_enter Try.func9, Try.ntmps9
  go_wp2
  all_goals
    go_ret
    exact ⟨_, rfl, rfl⟩

/-- The ways that answer at once. -/
theorem rot_out (a : Option Addr) (n c : Nat) (k : Int) (w : World) (h : n = 0 ∨ 4096 < n ∨ k < 0 ∨ (n : Int) < k) :
    Calls Try.prog 3 #[.slice a n c, .int .i64 k] w fun e w' => e = .returned (.bool true) ∧ RowKit.Below w.heap.size w w' := by
  by_cases h0 : n = 0
  · subst h0
    clear h
    go_enter Try.func3, Try.ntmps3
    go_wp2_with (go_at_call 5; refine (zz5 a 0 c k w).mono ?_; rintro e w' ⟨r, rfl, rfl⟩; cases r)
    all_goals
      go_ret
      exact ⟨rfl, Below.refl _ _⟩
  · have h1 : 1 ≤ n := by omega
    have hb0 : ((n : Int) == 0) = false := by simp; omega
    clear h0
    by_cases h2 : 4096 < n
    · clear h
      go_enter Try.func3, Try.ntmps3
      go_wp2_with (go_at_call 5; refine (zz5 a n c k w).mono ?_; rintro e w' ⟨r, rfl, rfl⟩; cases r)
      all_goals
        go_ret
        exact ⟨rfl, Below.refl _ _⟩
    · have h3 : k < 0 ∨ (n : Int) < k := by omega
      clear h
      by_cases h4 : k < 0
      · clear h3
        go_enter Try.func3, Try.ntmps3
        go_wp2_with (go_at_call 5; refine (zz5 a n c k w).mono ?_; rintro e w' ⟨r, rfl, rfl⟩; cases r)
        all_goals
          go_ret
          exact ⟨rfl, Below.refl _ _⟩
      · have h5 : (n : Int) < k := by omega
        clear h3
        go_enter Try.func3, Try.ntmps3
        go_wp2_with (go_at_call 5; refine (zz5 a n c k w).mono ?_; rintro e w' ⟨r, rfl, rfl⟩; cases r)
        all_goals
          go_ret
          exact ⟨rfl, Below.refl _ _⟩

end Go.Proofs.Qxb6631213a
