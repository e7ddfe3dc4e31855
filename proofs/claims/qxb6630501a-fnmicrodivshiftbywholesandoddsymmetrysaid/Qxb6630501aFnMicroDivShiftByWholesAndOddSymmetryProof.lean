/-
  FnMicroDivShiftByWholesAndOddSymmetry: the walk (by Div's contract), the row's step as the given shell has it.
-/
import Derived.Test.Qxb6630501aRows
import Derived.Test.Qxb6630501aDiv
import Derived.Lib.Hide
import Derived.WalkKit
import Derived.ProofKit
import Derived.OpenShut
import Derived.ShutString
namespace Go.Proofs.Qxb6630501a.fnMicroDivShiftByWholesAndOddSymmetry
open Go.ChangeShapes Go.WideShapes Go.ChangeAt Go.RowKit
open Go.ChangeMaps (open_string shut_string)
set_option linter.unusedVariables false      -- a walk need not use every 'w<i>' (that an integer argument fits its kind)

theorem own : ownKnob Try.prog.godebug = none := by kernel_rfl

/-! ### THE PLAIN LAW -/
theorem rnd_neg (m d : Int) : rnd (-m) d = -rnd m d := by
  unfold rnd
  rw [Int.neg_tdiv, Int.neg_tmod]
  repeat' split
  all_goals omega

theorem rnd_shift_pos (m k d : Int) (hd : 0 < d) (hm : 0 ≤ m) (hs : 0 ≤ m + k * d) : rnd (m + k * d) d = rnd m d + k := by
  unfold rnd
  rw [Int.tdiv_eq_ediv_of_nonneg hm, Int.tmod_eq_emod_of_nonneg hm, Int.tdiv_eq_ediv_of_nonneg hs, Int.tmod_eq_emod_of_nonneg hs, Int.add_mul_ediv_right _ _ (by omega), Int.add_mul_emod_self_right]
  repeat' split
  all_goals omega

theorem rnd_shift (m k d : Int) (hd : 0 < d) (h : (0 ≤ m ∧ 0 ≤ m + k * d) ∨ (m ≤ 0 ∧ m + k * d ≤ 0)) : rnd (m + k * d) d = rnd m d + k := by
  rcases h with ⟨h1, h2⟩ | ⟨h1, h2⟩
  · exact rnd_shift_pos m k d hd h1 h2
  · have e : -(m + k * d) = -m + -k * d := by rw [Int.neg_add, Int.neg_mul]
    have h3 := rnd_shift_pos (-m) (-k) d hd (by omega) (by rw [← e]; omega)
    rw [← e, rnd_neg, rnd_neg] at h3
    omega

theorem rnd_bounds (m d : Int) (hd : 0 < d) (h0 : -9223372036854775808 ≤ m) (h1 : m ≤ 9223372036854775807) : -9223372036854775808 ≤ rnd m d ∧ rnd m d ≤ 9223372036854775807 := by
  obtain ⟨_, _, _, h4, h5⟩ := td_facts m d hd
  have hr := td_room m d hd
  unfold rnd
  have hq : -9223372036854775808 ≤ m.tdiv d ∧ m.tdiv d ≤ 9223372036854775807 := by
    rcases Int.le_total 0 m with h | h
    · have := h4 h; omega
    · have := h5 h; omega
  split
  · rename_i c; have := hr.1 c.1; omega
  · split
    · rename_i c; have := hr.2 c.1; omega
    · exact hq

/-- the product is in range where the quotients say so -/
theorem prod_le (k d : Int) (hd : 0 < d) (h : k ≤ 9223372036854775807 / d) : k * d ≤ 9223372036854775807 := by
  have h1 := Int.mul_le_mul_of_nonneg_right h (show 0 ≤ d by omega)
  have h2 := Int.mul_ediv_add_emod 9223372036854775807 d
  have h3 : 0 ≤ (9223372036854775807 : Int) % d := Int.emod_nonneg _ (by omega)
  rw [Int.mul_comm] at h2
  omega
theorem prod_ge (k d : Int) (hd : 0 < d) (h : (-9223372036854775808 : Int).tdiv d ≤ k) : -9223372036854775808 ≤ k * d := by
  have h1 := Int.mul_le_mul_of_nonneg_right h (show 0 ≤ d by omega)
  obtain ⟨h2, _, _, _, h5⟩ := td_facts (-9223372036854775808) d hd
  have h6 := (h5 (by omega)).1
  rw [Int.mul_comm] at h2
  omega

/-! ### THE WALK -/
set_option maxHeartbeats 3200000 in
theorem walk (a0 : Int) (a1 : Int) (a2 : Int) (w0 : (Lit.int .i64 a0).wf = true) (w1 : (Lit.int .i64 a1).wf = true) (w2 : (Lit.int .i64 a2).wf = true) (w : World) :
    Calls Try.prog 4 #[.int .i64 a0, .int .i64 a1, .int .i64 a2] w fun e w' => e = .returned (.bool true) ∧ Grown w w' := by
  have hm : -9223372036854775808 ≤ a0 ∧ a0 ≤ 9223372036854775807 := by
    simp [Lit.wf, IntKind.min, IntKind.max, IntKind.signed, IntKind.bits] at w0; omega
  clear w0 w1 w2
  by_cases hd0 : a2 ≤ 0
  · go_enter Try.func4, Try.ntmps4
    go_wp2
    go_ret
    exact ⟨rfl, Grown.refl _⟩
  by_cases hd1 : 4611686018427387904 < a2
  · go_enter Try.func4, Try.ntmps4
    go_wp2
    go_ret
    exact ⟨rfl, Grown.refl _⟩
  have hdn : ¬ a2 = 0 := by omega
  have hp : 0 < a2 := by omega
  have hle : a2 ≤ 4611686018427387904 := by omega
  obtain ⟨hm0, hm1⟩ := hm
  clear hd0 hd1
  by_cases hk1 : 9223372036854775807 / a2 < a1
  · go_enter Try.func4, Try.ntmps4
    go_wp2
    go_ret
    exact ⟨rfl, Grown.refl _⟩
  have hk1' : a1 ≤ 9223372036854775807 / a2 := by omega
  clear hk1
  by_cases hk2 : a1 < wrap64 (-Int.tdiv 9223372036854775808 a2)
  · go_enter Try.func4, Try.ntmps4
    go_wp2
    go_ret
    exact ⟨rfl, Grown.refl _⟩
  have hk2' : wrap64 (-Int.tdiv 9223372036854775808 a2) ≤ a1 := by omega
  clear hk2
  have hp1 := prod_le a1 a2 hp hk1'
  have hp0 : -9223372036854775808 ≤ a1 * a2 := by
    refine prod_ge a1 a2 hp ?_
    have hb := (td_facts 9223372036854775808 a2 hp).2.2.2.1 (by omega)
    have e : (-9223372036854775808 : Int).tdiv a2 = -Int.tdiv 9223372036854775808 a2 := Int.neg_tdiv _ _
    have e2 : wrap64 (-Int.tdiv 9223372036854775808 a2) = -Int.tdiv 9223372036854775808 a2 := by
      generalize Int.tdiv 9223372036854775808 a2 = t at *
      unfold wrap64; omega
    rw [e, ← e2]; exact hk2'
  have hsh := rnd_shift a0 a1 a2 hp
  have hP : wrap64 (a1 * a2) = a1 * a2 := by
    generalize a1 * a2 = p at *
    unfold wrap64; omega
  obtain ⟨P, hPe⟩ : ∃ P, P = a1 * a2 := ⟨_, rfl⟩
  rw [← hPe] at hsh hp0 hp1
  have hPP : wrap64 (a1 * a2) = P := by rw [hP, hPe]
  clear hP hPe
  by_cases hE3 : 0 < P ∧ 9223372036854775807 - P < a0
  · obtain ⟨x, y⟩ := hE3
    clear hsh
    go_enter Try.func4, Try.ntmps4
    go_wp2
    go_ret
    exact ⟨rfl, Grown.refl _⟩
  by_cases hE4 : P < 0 ∧ a0 < -9223372036854775808 - P
  · obtain ⟨x, y⟩ := hE4
    clear hsh hE3
    go_enter Try.func4, Try.ntmps4
    go_wp2
    go_ret
    exact ⟨rfl, Grown.refl _⟩
  have hs0 : -9223372036854775808 ≤ a0 + P := by omega
  have hs1 : a0 + P ≤ 9223372036854775807 := by omega
  have hz : (a0 < 0 ∧ 0 < a0 + P) ∨ (0 < a0 ∧ a0 + P < 0) ∨ (0 ≤ a0 ∧ 0 ≤ a0 + P) ∨ (a0 < 0 ∧ a0 + P ≤ 0) ∨ (0 ≤ a0 ∧ a0 ≤ 0 ∧ a0 + P < 0) := by omega
  have hsg : (0 < P ∧ a0 ≤ 9223372036854775807 - P) ∨ (P < 0 ∧ -9223372036854775808 - P ≤ a0) ∨ (0 ≤ P ∧ P ≤ 0) := by omega
  clear hE3 hE4 hp0 hp1
  -- the zones in which the law says nothing
  by_cases hzz : (a0 < 0 ∧ 0 < a0 + P) ∨ (0 < a0 ∧ a0 + P < 0)
  · clear hsh hz
    rcases hzz with ⟨x, y⟩ | ⟨x, y⟩
    all_goals
      rcases hsg with ⟨p, q⟩ | ⟨p, q⟩ | ⟨p, q⟩
    all_goals
      first
      | (exfalso; omega)
      | (have z : decide (a0 + P ≤ 0) = false := by simp; omega
         go_enter Try.func4, Try.ntmps4
         go_wp2
         go_ret
         exact ⟨rfl, Grown.refl _⟩)
      | (have z : decide (0 ≤ a0 + P) = false := by simp; omega
         go_enter Try.func4, Try.ntmps4
         go_wp2
         go_ret
         exact ⟨rfl, Grown.refl _⟩)
  -- the shift and the symmetry
  have hAB := hsh (by omega)
  have hbA := rnd_bounds a0 a2 hp hm0 hm1
  have hbB := rnd_bounds (a0 + P) a2 hp hs0 hs1
  have H1 : Hid (∀ w, Calls Try.prog 5 #[.int .i64 a0, .int .i64 a2] w fun e w' => e = .returned (.int .i64 (rnd a0 a2)) ∧ w.drew = w') := div5 a0 a2 hm0 hm1 hp hle
  have H2 : Hid (∀ w, Calls Try.prog 5 #[.int .i64 (a0 + P), .int .i64 a2] w fun e w' => e = .returned (.int .i64 (rnd (a0 + P) a2)) ∧ w.drew = w') := div5 (a0 + P) a2 hs0 hs1 hp hle
  have H3 : Hid (-9223372036854775808 < a0 → ∀ w, Calls Try.prog 5 #[.int .i64 (-a0), .int .i64 a2] w fun e w' => e = .returned (.int .i64 (-rnd a0 a2)) ∧ w.drew = w') := fun h w => by
    have := div5 (-a0) a2 (by omega) (by omega) hp hle w
    rw [rnd_neg] at this
    exact this
  have hnb : -9223372036854775808 < a0 → -rnd a0 a2 ≤ 9223372036854775807 := fun h => by
    have := (rnd_bounds (-a0) a2 hp (by omega) (by omega)).2
    rw [rnd_neg] at this
    exact this
  have HN := Lib.hid hnb
  generalize rnd (a0 + P) a2 = Bv at *
  generalize rnd a0 a2 = Av at *
  have hne : (Bv != Av + a1) = false := by simp; omega
  have hbs0 : -9223372036854775808 ≤ Av + a1 := by omega
  have hbs1 : Av + a1 ≤ 9223372036854775807 := by omega
  have hz3 : (0 ≤ a0 ∧ 0 ≤ a0 + P) ∨ (a0 < 0 ∧ a0 + P ≤ 0) ∨ (0 ≤ a0 ∧ a0 ≤ 0 ∧ a0 + P < 0) := by omega
  have hmin : ((a0 != -9223372036854775808) = false) ∨ (-9223372036854775808 < a0 ∧ (a0 != -9223372036854775808) = true) := by
    simp only [bne_iff_ne, bne_eq_false_iff_eq]
    omega
  clear hz hzz hsh hAB hnb
  rcases hz3 with ⟨x, y⟩ | ⟨x, y⟩ | ⟨x, x', y⟩
  all_goals
    rcases hsg with ⟨p, q⟩ | ⟨p, q⟩ | ⟨p, q⟩
  all_goals
    rcases hmin with hmn | ⟨hmn', hmn⟩
  all_goals
    first
    | (exfalso; simp at hmn; omega)
    | (exfalso; omega)
    | (go_enter Try.func4, Try.ntmps4
       go_wp2_with (go_at_call 5; refine (H1.out _).mono ?_; rintro e w' ⟨rfl, rfl⟩; refine Hid.out ?_)
       refine Lib.hid ?_
       go_wp2_with (go_at_call 5; refine (H2.out _).mono ?_; rintro e w' ⟨rfl, rfl⟩; refine Hid.out ?_)
       refine Lib.hid ?_
       go_wp2
       go_ret
       exact ⟨rfl, Grown.refl _⟩)
    | (have hnn := HN.out hmn'
       go_enter Try.func4, Try.ntmps4
       go_wp2_with (go_at_call 5; refine (H1.out _).mono ?_; rintro e w' ⟨rfl, rfl⟩; refine Hid.out ?_)
       refine Lib.hid ?_
       go_wp2_with (go_at_call 5; refine (H2.out _).mono ?_; rintro e w' ⟨rfl, rfl⟩; refine Hid.out ?_)
       refine Lib.hid ?_
       go_wp2_with (go_at_call 5; refine (H3.out hmn' _).mono ?_; rintro e w' ⟨rfl, rfl⟩)
       go_ret
       exact ⟨rfl, Grown.refl _⟩)
    | (have hnn := HN.out hmn'
       have z : decide (0 ≤ a0 + P) = false := by simp; omega
       have z2 : decide (a0 + P ≤ 0) = true := by simp; omega
       have z3 : decide (a0 ≤ 0) = true := by simp; omega
       go_enter Try.func4, Try.ntmps4
       go_wp2_with (go_at_call 5; refine (H1.out _).mono ?_; rintro e w' ⟨rfl, rfl⟩; refine Hid.out ?_)
       refine Lib.hid ?_
       go_wp2_with (go_at_call 5; refine (H2.out _).mono ?_; rintro e w' ⟨rfl, rfl⟩; refine Hid.out ?_)
       refine Lib.hid ?_
       go_wp2_with (go_at_call 5; refine (H3.out hmn' _).mono ?_; rintro e w' ⟨rfl, rfl⟩)
       go_ret
       exact ⟨rfl, Grown.refl _⟩)

/-! ### THE ROW's STEP: WRITTEN OUT: LEAVE IT -/
set_option maxRecDepth 100000 in
theorem lifted (os : Os) (started : os.Started) (H : Type) (enc : TypeId × Value → H) :
    ReturnsInHanded {} Try.checked os 4 .any (Rows.fnMicroDivShiftByWholesAndOddSymmetrySpec.pre6 enc Try.prog Try.f4 Rows.fnMicroDivShiftByWholesAndOddSymmetryRow.domain false) (Rows.fnMicroDivShiftByWholesAndOddSymmetrySpec.post enc Try.prog Try.f4 false true false false) := by
  refine returnsInHanded_of_change (C := Try.checked) own started (by kernel_rfl) Try.func4
    (ChangeSpec.witness6 (enc := enc) (C := Try.checked) false ⟨#[], #[.int .i64 0, .int .i64 0, .int .i64 0], []⟩ 8 (by kernel_rfl) (by kernel_rfl) (by kernel_rfl) (by kernel_rfl)) ?_
  intro W base args ds gs before hval0 hW hcnd _
  have hval : ∀ (j : Nat) t v, Try.f4.params[j]? = some t → args[j]? = some v → Value.okWide Try.prog W .any base t v := hval0
  have hW' := hW
  obtain ⟨p, q, hA0, hV, rfl, hfz, hnd⟩ := hW
  have hA : DataW.TrodAll enc Try.prog W 0 (fun _ => true) true Try.f4.params.toList args.toList ds p := hA0
  rw [Try.params4] at hA hval
  obtain ⟨v0, vs0, d0, ds0, p0, q0, hargs, rfl, rfl, h0, r0⟩ := trodAll_cons hA
  obtain ⟨v1, vs1, d1, ds1, p1, q1, rfl, rfl, rfl, h1, r1⟩ := trodAll_cons r0
  obtain ⟨v2, vs2, d2, ds2, p2, q2, rfl, rfl, rfl, h2, r2⟩ := trodAll_cons r1
  obtain ⟨rfl, rfl, rfl⟩ := trodAll_nil r2
  obtain rfl : args = #[v0, v1, v2] := by cases args; simp_all
  obtain ⟨rfl, rfl⟩ := trodVars_none hV
  obtain ⟨a0, rfl, rfl, rfl, w0⟩ := open_int Try.underlying2 (hval 0 2 v0 rfl rfl) h0
  obtain ⟨a1, rfl, rfl, rfl, w1⟩ := open_int Try.underlying2 (hval 1 2 v1 rfl rfl) h1
  obtain ⟨a2, rfl, rfl, rfl, w2⟩ := open_int Try.underlying2 (hval 2 2 v2 rfl rfl) h2
  clear hA0 hval0
  simp only [List.append_nil] at hW'
  refine (walk a0 a1 a2 w0 w1 w2 W).mono fun e W' ⟨he, hg⟩ => ?_
  subst he
  exact ⟨_, rfl, post_of_same (pa := []) (pv := []) hW' (fun _ _ _ => (trodAll_cons_mk (shut_bool Try.underlying4 _) trodAll_mk0)) (fun sp _ => (trodAll_cons_mk (shut_int Try.underlying2 w0) (trodAll_cons_mk (shut_int Try.underlying2 w1) (trodAll_cons_mk (shut_int Try.underlying2 w2) trodAll_mk0)))) (fun _ _ => rfl) rfl
    (hg.frame _) hg.2.1 (ok_one (by kernel_rfl) rfl (okWide_bool_mk Try.underlying4 _))⟩

theorem over : Rows.fnMicroDivShiftByWholesAndOddSymmetryRow.holds Try.pinned (OpenSpec.ofChange Rows.fnMicroDivShiftByWholesAndOddSymmetrySpec) :=
  OpenClaim.holds_of_wide 4 Try.f4 rfl rfl rfl rfl rfl rfl rfl ⟨rfl, rfl, rfl, rfl, rfl⟩ rfl rfl rfl rfl rfl (by kernel_rfl) Try.func4 (by kernel_rfl)
    (of_decide_eq_true (by kernel_rfl)) (by unfold Func.isWrapper; first | (rw [if_pos (by decide +kernel)]; kernel_rfl) | (rw [if_neg (by decide +kernel)]; exact ⟨rfl, rfl⟩))
    (fun os started H enc _ => lifted os started H enc)

/-- ████ THE STATEMENT ████ -/
theorem proved : Rows.FnMicroDivShiftByWholesAndOddSymmetrySaid :=
  over
#print axioms proved
end Go.Proofs.Qxb6630501a.fnMicroDivShiftByWholesAndOddSymmetry
