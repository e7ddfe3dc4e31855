/-
  Seat b6631213a. slices.Values (13), slices.Sorted (12) at float64: the sorted words of a slice that is not empty.
-/
import Derived.Test.Qxb6631213aSAsm
import Derived.Test.Qxb6631213aIter
import Derived.Lib.Hide
namespace Go.Proofs.Qxb6631213a
open Go.RowKit Go.Sort Go.Proofs

theorem holds_of_blockF {w : World} {g : Nat} {cur : Array Value} {e : TypeId} {ss : List Nat} (hb : w.heap[g]? = some (.cells cur e (0, 0))) (ht : cur.toList.take ss.length = ss.map encF) : Holds encF w g 0 ss.toArray := by
  intro j hj
  have hj' : j < ss.length := by simpa using hj
  refine ⟨?_, by simp [World.frozen?, hb]⟩
  have h1 : (cur.toList.take ss.length)[j]? = (ss.map encF)[j]? := by rw [ht]
  rw [List.getElem?_take_of_lt hj'] at h1
  simp only [World.cell?, hb, Nat.zero_add]
  simp only [Option.isSome_none, Bool.false_eq_true, if_false]
  rw [← Array.getElem?_toList, h1]
  simp [hj']

theorem grownBy_sortedF {w : World} {g n : Nat} {os : Array Obj} (d : Array Nat) : w.grownBy (grow (putRow encF (Sort.ahead w n) g 0 d) os) (some g) := by
  refine ⟨rfl, rfl, rfl, by simp, fun k hk hne => ?_⟩
  rw [heap_grow_old _ _ (by simpa using hk)]
  have : g ≠ k := fun e => hne (by rw [e])
  simp [putRow, mapBlock, Sort.ahead, Array.getElem?_modify, this]

set_option maxRecDepth 100000 in
/-- slices.Sorted(slices.Values(s)) where s is not empty. -/
theorem Sorted_flt (Bs : Nat) (sv : Value) (zs : List Nat) (hne : zs ≠ []) (hlen : zs.length ≤ 1048576) (w : World)
    (hBs : Bs < w.heap.size) (hc : w.cell? ⟨Bs, 0, none⟩ = some sv) (hI : Words w.heap.size w sv zs) :
    Calls Try.prog 12 #[.func (.func 16) #[] #[.pointer (some ⟨Bs, 0, none⟩)]] w fun e W' => ∃ g cap, e = .returned (.slice (some ⟨g, 0, none⟩) zs.length cap) ∧ Holds encF W' g 0 (Sort.sort ltF zs.toArray) ∧ RowKit.Below w.heap.size w W' := by
  have hmax : zs.length ≤ maxLen := by unfold maxLen; omega
  have hcol := collect_flt Bs sv zs hmax (by omega) w hBs hc hI
  have HC : Hid (Calls Try.prog 14 #[.func (.func 16) #[] #[.pointer (some ⟨Bs, 0, none⟩)]] w fun e W' => ∃ v, e = .returned v ∧ W'.ownsRow w.heap.size 24 1 v zs.length (zs.map encF) ∧ (v = .slice none 0 0 ↔ zs = []) ∧ RowKit.Below w.heap.size w W') := hcol
  clear hcol hc hI
  have HS : Hid (∀ (g cap : Nat) (w : World), Holds encF w g 0 zs.toArray → g < w.heap.size → Calls Try.prog 15 #[.slice (some ⟨g, 0, none⟩) zs.length cap] w fun e w' => e = .returned (.tuple #[]) ∧ ∃ n os, w' = grow (putRow encF (Sort.ahead w n) g 0 (Sort.sort ltF zs.toArray)) os) := by
    intro g cap w h1 h2
    have := Sort_flt g 0 cap zs.toArray w h1 h2 (by simp; omega)
    simpa using this
  have Hlen : Hid (zs.length ≤ 1048576) := hlen
  clear hlen hmax
  go_enter Try.func12, Try.ntmps12
  go_wp2_with (first
    | (go_at_call 14; refine HC.out.mono ?_; rintro e w1 ⟨v, rfl, hrow, hnil, hb⟩
       obtain ⟨g, cap, cur, rfl, hg, hcur, q1, q2, q3, q4⟩ := (hrow.2).resolve_left (fun h => hne (List.length_eq_zero_iff.1 h.2))
       have HH : Hid (Holds encF w1 g 0 zs.toArray ∧ g < w1.heap.size) := ⟨holds_of_blockF hcur (by simpa using q4), (Array.getElem?_eq_some_iff.1 hcur).1⟩
       clear hrow hnil hcur q1 q2 q3 q4)
    | (go_at_call 15; refine (HS.out g cap w1 HH.out.1 HH.out.2).mono ?_; rintro e w2 ⟨rfl, n, os, hw2⟩
       have HW : Hid (w2 = grow (putRow encF (Sort.ahead w1 n) g 0 (Sort.sort ltF zs.toArray)) os) := hw2
       clear hw2))
  go_ret
  refine ⟨g, cap, rfl, ?_, ?_⟩
  · have hA : At encF w1 g 0 (Sort.sort ltF zs.toArray) w2 := ⟨n, os, HW.out⟩
    exact (hA.holds HH.out.1 (sort_facts zs.toArray).1 HH.out.2).1
  · have hgr : w1.grownBy w2 (some g) := by rw [HW.out]; exact grownBy_sortedF _
    exact hb.grown hgr hb.size (fun k e => by cases e; exact hg)

set_option maxHeartbeats 1000000 in
/-- slices.Values(s). -/
theorem Values_flt (a : Option Addr) (len cap : Nat) (w : World) :
    Calls Try.prog 13 #[.slice a len cap] w fun e w' => e = .returned (.func (.func 16) #[] #[.pointer (some ⟨w.heap.size, 0, none⟩)]) ∧ w' = w.alloc (.cells #[.slice a len cap] 22) := by
  go_enter Try.func13, Try.ntmps13
  go_wp2
  go_ret
  exact ⟨rfl, rfl⟩

end Go.Proofs.Qxb6631213a
