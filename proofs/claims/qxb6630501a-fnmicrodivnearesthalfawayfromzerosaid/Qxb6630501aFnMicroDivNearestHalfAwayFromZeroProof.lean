/-
  FnMicroDivNearestHalfAwayFromZero: the walk (by Div's contract), the row's step as the given shell has it.
-/
import Derived.Test.Qxb6630501aRows
import Derived.Test.Qxb6630501aDiv
import Derived.Lib.Hide
import Derived.WalkKit
import Derived.ProofKit
import Derived.OpenShut
import Derived.ShutString
namespace Go.Proofs.Qxb6630501a.fnMicroDivNearestHalfAwayFromZero
open Go.ChangeShapes Go.WideShapes Go.ChangeAt Go.RowKit
open Go.ChangeMaps (open_string shut_string)
set_option linter.unusedVariables false      -- a walk need not use every 'w<i>' (that an integer argument fits its kind)

theorem own : ownKnob Try.prog.godebug = none := by kernel_rfl

/-! ### THE PLAIN LAW -/
theorem rnd_facts (m d : Int) (hd : 0 < d) :
    ((rnd m d = m.tdiv d) ∨ (rnd m d = m.tdiv d + 1 ∧ m.tdiv d + 1 ≤ m ∧ 0 ≤ m.tdiv d) ∨ (rnd m d = m.tdiv d - 1 ∧ m ≤ m.tdiv d - 1 ∧ m.tdiv d ≤ 0)) ∧
    -d ≤ 2 * (m - rnd m d * d) ∧ 2 * (m - rnd m d * d) ≤ d ∧ (2 * (m - rnd m d * d) = d → m < 0) ∧ (2 * (m - rnd m d * d) = -d → 0 < m) := by
  obtain ⟨h1, h2, h3, h4, h5⟩ := td_facts m d hd
  have hr := td_room m d hd
  have hs : (0 < m.tmod d → 0 < m) ∧ (m.tmod d < 0 → m < 0) := by
    constructor
    · intro h; rcases Int.le_total m 0 with h' | h'
      · have := (h5 h').1; omega
      · rcases (show m = 0 ∨ 0 < m by omega) with h0 | h0
        · have := (h5 (by omega)).1; omega
        · exact h0
    · intro h; rcases Int.le_total 0 m with h' | h'
      · have := (h4 h').1; omega
      · rcases (show m = 0 ∨ m < 0 by omega) with h0 | h0
        · have := (h4 (by omega)).1; omega
        · exact h0
  have em : d * m.tdiv d = m.tdiv d * d := Int.mul_comm _ _
  by_cases c1 : 0 < m.tmod d ∧ d ≤ 2 * m.tmod d
  · have e : rnd m d = m.tdiv d + 1 := by unfold rnd; rw [if_pos c1]
    have e2 : rnd m d * d = m.tdiv d * d + d := by rw [e, Int.add_mul, Int.one_mul]
    have := hr.1 c1.1
    have := hs.1 c1.1
    rw [e2]
    refine ⟨.inr (.inl ⟨e, by omega, by omega⟩), by omega, by omega, fun h => by omega, fun h => by omega⟩
  · by_cases c2 : m.tmod d < 0 ∧ d ≤ -2 * m.tmod d
    · have e : rnd m d = m.tdiv d - 1 := by unfold rnd; rw [if_neg c1, if_pos c2]
      have e2 : rnd m d * d = m.tdiv d * d - d := by rw [e, Int.sub_mul, Int.one_mul]
      have := hr.2 c2.1
      have := hs.2 c2.1
      rw [e2]
      refine ⟨.inr (.inr ⟨e, by omega, by omega⟩), by omega, by omega, fun h => by omega, fun h => by omega⟩
    · have e : rnd m d = m.tdiv d := by unfold rnd; rw [if_neg c1, if_neg c2]
      rw [e]
      refine ⟨.inl rfl, by omega, by omega, fun h => by omega, fun h => by omega⟩

theorem e_wrap (m q d : Int) (h0 : -4611686018427387904 ≤ m - q * d) (h1 : m - q * d ≤ 4611686018427387904) : wrap64 (m - wrap64 (q * d)) = m - q * d := by
  generalize q * d = p at *
  unfold wrap64
  omega

/-! ### THE WALK -/
set_option maxHeartbeats 3200000 in
theorem walk (a0 : Int) (a1 : Int) (w0 : (Lit.int .i64 a0).wf = true) (w1 : (Lit.int .i64 a1).wf = true) (w : World) :
    Calls Try.prog 3 #[.int .i64 a0, .int .i64 a1] w fun e w' => e = .returned (.bool true) ∧ Grown w w' := by
  have hm : -9223372036854775808 ≤ a0 ∧ a0 ≤ 9223372036854775807 := by
    simp [Lit.wf, IntKind.min, IntKind.max, IntKind.signed, IntKind.bits] at w0; omega
  clear w0 w1
  by_cases hd0 : a1 ≤ 0
  · go_enter Try.func3, Try.ntmps3
    go_wp2
    go_ret
    exact ⟨rfl, Grown.refl _⟩
  by_cases hd1 : 4611686018427387904 < a1
  · go_enter Try.func3, Try.ntmps3
    go_wp2
    go_ret
    exact ⟨rfl, Grown.refl _⟩
  obtain ⟨hA, hB, hC, hD, hE⟩ := rnd_facts a0 a1 (by omega)
  have hw := e_wrap a0 (rnd a0 a1) a1 (by omega) (by omega)
  obtain ⟨e, he⟩ : ∃ e, e = a0 - rnd a0 a1 * a1 := ⟨_, rfl⟩
  rw [← he] at hB hC hD hE hw
  clear he
  have hdn : ¬ a1 = 0 := by omega
  have hp : 0 < a1 := by omega
  have hle : a1 ≤ 4611686018427387904 := by omega
  obtain ⟨hm0, hm1⟩ := hm
  have hdiv : Hid (∀ w, Calls Try.prog 5 #[.int .i64 a0, .int .i64 a1] w fun e w' => e = .returned (.int .i64 (rnd a0 a1)) ∧ w.drew = w') := div5 a0 a1 hm0 hm1 hp hle
  obtain ⟨_, _, _, h4, h5⟩ := td_facts a0 a1 hp
  have ht0 : -9223372036854775808 ≤ a0.tdiv a1 := by rcases Int.le_total 0 a0 with h | h; have := h4 h; omega; have := h5 h; omega
  have ht1 : a0.tdiv a1 ≤ 9223372036854775807 := by rcases Int.le_total 0 a0 with h | h; have := h4 h; omega; have := h5 h; omega
  clear hd0 hd1 h4 h5
  generalize rnd a0 a1 = q at hA hw hdiv
  have hA' : ((q == a0.tdiv a1) = true) ∨ ((q == a0.tdiv a1) = false ∧ a0.tdiv a1 < 9223372036854775807 ∧ (q == a0.tdiv a1 + 1) = true) ∨ ((q == a0.tdiv a1) = false ∧ a0.tdiv a1 < 9223372036854775807 ∧ (q == a0.tdiv a1 + 1) = false ∧ -9223372036854775808 < a0.tdiv a1 ∧ (q == a0.tdiv a1 - 1) = true) := by
    simp only [beq_iff_eq, beq_eq_false_iff_ne]
    omega
  have hB' : (e < 0 ∧ 0 < a0 ∧ a1 % 2 = 0 ∧ (-e == a1 / 2) = true) ∨ (e < 0 ∧ -e ≤ a1 / 2 ∧ ¬ a1 % 2 = 0) ∨ (e < 0 ∧ -e ≤ a1 / 2 ∧ a1 % 2 = 0 ∧ (-e == a1 / 2) = false) ∨ (0 < e ∧ a0 < 0 ∧ a1 % 2 = 0 ∧ (e == a1 / 2) = true) ∨ (0 ≤ e ∧ e ≤ a1 / 2 ∧ ¬ a1 % 2 = 0) ∨ (0 ≤ e ∧ e ≤ a1 / 2 ∧ a1 % 2 = 0 ∧ (e == a1 / 2) = false) := by
    simp only [beq_iff_eq, beq_eq_false_iff_ne]
    omega
  clear hA hD hE
  rcases hA' with a | ⟨a, a', b⟩ | ⟨a, a', b, b', c⟩
  all_goals
    rcases hB' with ⟨x, y, z, t⟩ | ⟨x, y, z⟩ | ⟨x, y, z, t⟩ | ⟨x, y, z, t⟩ | ⟨x, y, z⟩ | ⟨x, y, z, t⟩
  all_goals
    go_enter Try.func3, Try.ntmps3
    go_wp2_with (go_at_call 5; refine (hdiv.out _).mono ?_; rintro e w' ⟨rfl, rfl⟩)
    go_ret
    exact ⟨rfl, Grown.refl _⟩

/-! ### THE ROW's STEP: WRITTEN OUT: LEAVE IT -/
set_option maxRecDepth 100000 in
theorem lifted (os : Os) (started : os.Started) (H : Type) (enc : TypeId × Value → H) :
    ReturnsInHanded {} Try.checked os 3 .any (Rows.fnMicroDivNearestHalfAwayFromZeroSpec.pre6 enc Try.prog Try.f3 Rows.fnMicroDivNearestHalfAwayFromZeroRow.domain false) (Rows.fnMicroDivNearestHalfAwayFromZeroSpec.post enc Try.prog Try.f3 false true false false) := by
  refine returnsInHanded_of_change (C := Try.checked) own started (by kernel_rfl) Try.func3
    (ChangeSpec.witness6 (enc := enc) (C := Try.checked) false ⟨#[], #[.int .i64 0, .int .i64 0], []⟩ 8 (by kernel_rfl) (by kernel_rfl) (by kernel_rfl) (by kernel_rfl)) ?_
  intro W base args ds gs before hval0 hW hcnd _
  have hval : ∀ (j : Nat) t v, Try.f3.params[j]? = some t → args[j]? = some v → Value.okWide Try.prog W .any base t v := hval0
  have hW' := hW
  obtain ⟨p, q, hA0, hV, rfl, hfz, hnd⟩ := hW
  have hA : DataW.TrodAll enc Try.prog W 0 (fun _ => true) true Try.f3.params.toList args.toList ds p := hA0
  rw [Try.params3] at hA hval
  obtain ⟨v0, vs0, d0, ds0, p0, q0, hargs, rfl, rfl, h0, r0⟩ := trodAll_cons hA
  obtain ⟨v1, vs1, d1, ds1, p1, q1, rfl, rfl, rfl, h1, r1⟩ := trodAll_cons r0
  obtain ⟨rfl, rfl, rfl⟩ := trodAll_nil r1
  obtain rfl : args = #[v0, v1] := by cases args; simp_all
  obtain ⟨rfl, rfl⟩ := trodVars_none hV
  obtain ⟨a0, rfl, rfl, rfl, w0⟩ := open_int Try.underlying2 (hval 0 2 v0 rfl rfl) h0
  obtain ⟨a1, rfl, rfl, rfl, w1⟩ := open_int Try.underlying2 (hval 1 2 v1 rfl rfl) h1
  clear hA0 hval0
  simp only [List.append_nil] at hW'
  refine (walk a0 a1 w0 w1 W).mono fun e W' ⟨he, hg⟩ => ?_
  subst he
  exact ⟨_, rfl, post_of_same (pa := []) (pv := []) hW' (fun _ _ _ => (trodAll_cons_mk (shut_bool Try.underlying4 _) trodAll_mk0)) (fun sp _ => (trodAll_cons_mk (shut_int Try.underlying2 w0) (trodAll_cons_mk (shut_int Try.underlying2 w1) trodAll_mk0))) (fun _ _ => rfl) rfl
    (hg.frame _) hg.2.1 (ok_one (by kernel_rfl) rfl (okWide_bool_mk Try.underlying4 _))⟩

theorem over : Rows.fnMicroDivNearestHalfAwayFromZeroRow.holds Try.pinned (OpenSpec.ofChange Rows.fnMicroDivNearestHalfAwayFromZeroSpec) :=
  OpenClaim.holds_of_wide 3 Try.f3 rfl rfl rfl rfl rfl rfl rfl ⟨rfl, rfl, rfl, rfl, rfl⟩ rfl rfl rfl rfl rfl (by kernel_rfl) Try.func3 (by kernel_rfl)
    (of_decide_eq_true (by kernel_rfl)) (by unfold Func.isWrapper; first | (rw [if_pos (by decide +kernel)]; kernel_rfl) | (rw [if_neg (by decide +kernel)]; exact ⟨rfl, rfl⟩))
    (fun os started H enc _ => lifted os started H enc)

/-- ████ THE STATEMENT ████ -/
theorem proved : Rows.FnMicroDivNearestHalfAwayFromZeroSaid :=
  over
#print axioms proved
end Go.Proofs.Qxb6630501a.fnMicroDivNearestHalfAwayFromZero
