/-
  Seat b6631213a. The sort put together at float64: slices.Sort (15) leaves the cells sorted by 'ltF'.
-/
import Derived.Sort.AssemblyPlain
import Derived.Test.Qxb6631213aFl1
import Derived.Test.Qxb6631213aSA
import Derived.Test.Qxb6631213aSC4
import Derived.Test.Qxb6631213aSC5
import Derived.Test.Qxb6631213aS7
import Derived.Test.Qxb6631213aS11
import Derived.Test.Qxb6631213aS13
namespace Go.Proofs.Qxb6631213a
open Go.Sort Go.RowKit Go.Proofs

theorem callees13f : Callees13f where
  ins := insertionSort_flt
  brk := breakPatterns_flt
  piv := choosePivot_flt
  par := partialInsertionSort_flt
  peq := partitionEqualOrdered_flt
  prt := partitionOrdered_flt

theorem plain13f : Plain13f where
  swo := swo_ltF
  ins := insertionSort_holds
  par := partialInsertionSort_holds
  prt := partition_holds _
  peq := partitionEqual_holds _
  pdq := pdq_sorts _

set_option maxRecDepth 100000 in
/-- slices.Sort at floats. -/
theorem Sort_flt (blk off cap : Nat) (d : Array Nat) (w : World) (hH : Holds encF w blk off d) (hblk : blk < w.heap.size) (hsz : d.size < 4611686018427387904) :
    Calls Try.prog 15 #[.slice (some ⟨blk, off, none⟩) d.size cap] w fun e w' => e = .returned (.tuple #[]) ∧ ∃ n os, w' = grow (putRow encF (Sort.ahead w n) blk off (Sort.sort ltF d)) os := by
  have HH : Hid (Holds encF w blk off d) := hH
  clear hH
  have hLen : ∀ w, Calls Try.prog 19 #[.int .u64 (d.size : Int)] w fun e w' => e = .returned (.int .i64 (bitsLen d.size : Nat)) ∧ w' = w := fun w => by
    have h := bits_Len (d.size : Int) w (by omega) (by omega)
    rwa [Int.toNat_natCast, bitLen_eq _ (by omega)] at h
  have hk : bitsLen d.size ≤ 62 := (bitsLen_le_iff d.size 62).2 (by omega)
  go_enter Try.func15, Try.ntmps15
  go_wp2_with (first
    | (go_at_call 19; refine (hLen _).mono ?_; rintro e w' ⟨rfl, rfl⟩)
    | (go_at_call 18; refine (pdqsort_flt callees13f plain13f (d.size - 0 + 1) blk off cap 0 d.size (bitsLen d.size) d _ (by omega) (by exact HH.out) (by exact hblk) (Nat.zero_le _) (Nat.le_refl _) hsz (by omega) (Or.inl rfl)).mono ?_; rintro e w' ⟨rfl, n, os, rfl⟩))
  go_end0
  exact ⟨rfl, n, os, rfl⟩

/-- What the sort leaves: the same words, in order. -/
theorem sort_facts (d : Array Nat) : (Sort.sort ltF d).size = d.size ∧ (Sort.sort ltF d).toList.Perm d.toList ∧ ∀ i j, i < j → j < d.size → ltF (Sort.sort ltF d)[j]! (Sort.sort ltF d)[i]! = false := by
  obtain ⟨⟨h1, _, h3⟩, h4⟩ := sort_sorts ltF swo_ltF d
  refine ⟨h1, ?_, fun i j hij hj => h4 i j (Nat.zero_le _) hij hj⟩
  have e : (Sort.sort ltF d).extract 0 d.size = Sort.sort ltF d := by rw [← h1]; simp
  rw [e] at h3
  simpa using h3

end Go.Proofs.Qxb6631213a
