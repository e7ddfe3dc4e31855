/-
  Seat b6631213a. FnMedianRotationOrderStatistic: the walk put together; the row.
-/
import Derived.Test.Qxb6631213aRows
import Derived.Test.Qxb6631213aRotEnd
import Derived.Test.Qxb6631213aOpen
import Derived.WalkKit
import Derived.ProofKit
import Derived.OpenShut
import Derived.ChangeOld
import Derived.Below
namespace Go.Proofs.Qxb6631213a.fnMedianRotationOrderStatistic
open Go.ChangeShapes Go.WideShapes Go.ChangeAt Go.RowKit

theorem own : ownKnob Try.prog.godebug = none := by kernel_rfl
theorem laidOut : laidOutB Try.prog = true := by kernel_rfl

theorem walk (a : Option Addr) (len cap : Nat) (k : Int) (w : World) (h : (a = none ∧ len = 0) ∨ ∃ x zs, a = some x ∧ Row w x len zs) :
    Calls Try.prog 3 #[.slice a len cap, .int .i64 k] w fun e w' => e = .returned (.bool true) ∧ RowKit.Below w.heap.size w w' := by
  by_cases hout : len = 0 ∨ 4096 < len ∨ k < 0 ∨ (len : Int) < k
  · exact rot_out a len cap k w hout
  · rcases h with ⟨_, h0⟩ | ⟨x, zs, rfl, hr⟩
    · exact absurd (Or.inl h0) hout
    · obtain ⟨c, rfl⟩ : ∃ c : Nat, k = (c : Int) := ⟨k.toNat, by omega⟩
      rcases Nat.lt_or_ge c len with hc | hc
      · exact rot_main x len cap c zs w hr (by omega) (by omega) hc
      · obtain rfl : c = len := by omega
        exact rot_end x c cap zs w hr (by omega) (by omega)

set_option maxRecDepth 100000 in
theorem lifted (os : Os) (started : os.Started) (H : Type) (enc : TypeId × Value → H) :
    ReturnsInHanded {} Try.checked os 3 .any (Rows.fnMedianRotationOrderStatisticSpec.pre6 enc Try.prog Try.f3 Rows.fnMedianRotationOrderStatisticRow.domain false) (Rows.fnMedianRotationOrderStatisticSpec.post enc Try.prog Try.f3 false true false false) := by
  refine returnsInHanded_of_change (C := Try.checked) own started (by kernel_rfl) Try.func3
    (ChangeSpec.witness6 (enc := enc) (C := Try.checked) false ⟨#[], #[.slice none 0 0, .int .i64 0], []⟩ 8 (by kernel_rfl) (by kernel_rfl) (by kernel_rfl) (by kernel_rfl)) ?_
  intro W base args ds gs before hval0 hW hcnd _
  have hval : ∀ (j : Nat) t v, Try.f3.params[j]? = some t → args[j]? = some v → Value.okWide Try.prog W .any base t v := hval0
  have hW' := hW
  obtain ⟨p, q, hA0, hV, rfl, hfz, hnd⟩ := hW
  have hA : DataW.TrodAll enc Try.prog W 0 (fun _ => true) true Try.f3.params.toList args.toList ds p := hA0
  rw [Try.params3] at hA hval
  obtain ⟨v0, vs0, d0, ds0, p0, q0, hargs, rfl, rfl, h0, r0⟩ := trodAll_cons hA
  obtain ⟨v1, vs1, d1, ds1, p1, q1, rfl, rfl, rfl, h1, r1⟩ := trodAll_cons r0
  obtain ⟨rfl, rfl, rfl⟩ := trodAll_nil r1
  obtain rfl : args = #[v0, v1] := by cases args; simp_all
  obtain ⟨rfl, rfl⟩ := trodVars_none hV
  obtain ⟨a0, len0, cap0, rfl⟩ := okWide_slice Try.underlying22 (hval 0 22 v0 rfl rfl)
  have lt0 : ∀ x ∈ p0, x.block < W.heap.size := by obtain ⟨m, hm⟩ := h0; exact DataW.trod_lt m _ _ _ hm
  have k1 := h1
  have lt1 : ∀ x ∈ p1, x.block < W.heap.size := by obtain ⟨m, hm⟩ := k1; exact DataW.trod_lt m _ _ _ hm
  obtain ⟨a1, rfl, _, _, _⟩ := open_int Try.underlying3 (hval 1 3 v1 rfl rfl) h1
  clear hA0 hval0
  refine (walk a0 len0 cap0 a1 W (open_words h0)).mono fun e W' ⟨he, bel⟩ => ?_
  subst he
  exact ⟨_, rfl, _, _, _, [], _, [], hW', trodAll_mk1 (shut_bool Try.underlying4 _), (trodAll_cons_mk (Below.trod laidOut (by kernel_rfl) (of_decide_eq_true (by kernel_rfl)) h0 bel lt0) (trodAll_cons_mk (Below.trod laidOut (by kernel_rfl) (of_decide_eq_true (by kernel_rfl)) k1 bel lt1) trodAll_mk0)), rfl, bel.frame _, fun h => by cases h⟩

theorem over : Rows.fnMedianRotationOrderStatisticRow.holds Try.pinned (OpenSpec.ofChange Rows.fnMedianRotationOrderStatisticSpec) :=
  OpenClaim.holds_of_wide 3 Try.f3 rfl rfl rfl rfl rfl rfl rfl ⟨rfl, rfl, rfl, rfl, rfl⟩ rfl rfl rfl rfl rfl (by kernel_rfl) Try.func3 (by kernel_rfl)
    (of_decide_eq_true (by kernel_rfl)) (by unfold Func.isWrapper; first | (rw [if_pos (by decide +kernel)]; kernel_rfl) | (rw [if_neg (by decide +kernel)]; exact ⟨rfl, rfl⟩))
    (fun os started H enc _ => lifted os started H enc)

/-- THE STATEMENT. -/
theorem proved : Rows.FnMedianRotationOrderStatisticSaid := over
#print axioms proved
end Go.Proofs.Qxb6631213a.fnMedianRotationOrderStatistic
