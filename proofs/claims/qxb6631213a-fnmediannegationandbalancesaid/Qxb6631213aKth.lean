/-
  Seat b6631213a. zzLess (10), zzSame (8), zzKth (6), the two zzBytes (5, 9).
-/
import Derived.Test.Qxb6631213aMed2
namespace Go.Proofs.Qxb6631213a
open Go.RowKit Go.Sort Go.Proofs

theorem eql_self (x : Nat) : (FloatKind.f64.format.order x x == some .eq) = !nanF x := by
  rw [eql_eq]; cases nanF x <;> simp

set_option maxHeartbeats 1000000 in
theorem zzLess_go (x y : Nat) (w : World) : Calls Try.prog 10 #[.float .f64 x, .float .f64 y] w fun e w' => e = .returned (.bool (ltF x y)) ∧ w' = w := by
  go_enter Try.func10, Try.ntmps10
  go_wp2
  all_goals go_ret
  all_goals refine ⟨?_, rfl⟩
  all_goals simp_all [ltF, nanF, eql_self]

/-- zzSame. -/
def sameF (x y : Nat) : Bool := (nanF x && nanF y) || (!nanF x && !nanF y && decide (val x = val y))

set_option maxHeartbeats 1000000 in
theorem zzSame_go (x y : Nat) (w : World) : Calls Try.prog 8 #[.float .f64 x, .float .f64 y] w fun e w' => e = .returned (.bool (sameF x y)) ∧ w' = w := by
  have e := eql_eq x y
  unfold sameF
  rw [← e]
  clear e
  go_enter Try.func8, Try.ntmps8
  go_wp2
  all_goals go_ret
  all_goals refine ⟨?_, rfl⟩
  all_goals simp_all [nanF]

/-- How many of the places below j have p. -/
def cnt (p : Nat → Bool) : Nat → Nat
  | 0 => 0
  | j + 1 => cnt p j + (if p j then 1 else 0)

theorem cnt_le (p : Nat → Bool) : ∀ j, cnt p j ≤ j
  | 0 => Nat.le_refl _
  | j + 1 => by have := cnt_le p j; simp only [cnt]; split <;> omega

def lowC (G : Nat → Nat) (r j : Nat) : Nat := cnt (fun t => ltF (G t) r) j
def tieC (G : Nat → Nat) (r j : Nat) : Nat := cnt (fun t => !ltF (G t) r && !ltF r (G t)) j

theorem lowC_succ (G : Nat → Nat) (r j : Nat) : lowC G r (j + 1) = lowC G r j + (if ltF (G j) r then 1 else 0) := rfl
theorem tieC_succ (G : Nat → Nat) (r j : Nat) : tieC G r (j + 1) = tieC G r j + (if (!ltF (G j) r && !ltF r (G j)) = true then 1 else 0) := rfl

def Cond (G : Nat → Nat) (n k r : Nat) : Prop := lowC G r n ≤ k ∧ k < lowC G r n + tieC G r n

set_option maxRecDepth 100000 in
set_option maxHeartbeats 2000000 in
theorem zzKth_go (b off cap n k : Nat) (G : Nat → Nat) (w : World) (hc : ∀ t, t < n → w.cell? ⟨b, off + t, none⟩ = some (.float .f64 (G t))) (hn : n ≤ 1048576) (hk : k < n) (hex : ∃ i, i < n ∧ Cond G n k (G i)) :
    Calls Try.prog 6 #[.slice (some ⟨b, off, none⟩) n cap, .int .i64 k] w fun e w' => ∃ r, e = .returned (.float .f64 r) ∧ (∃ i, i < n ∧ r = G i ∧ Cond G n k r) ∧ ∃ q, w' = w.drewN q := by
  have HX : Hid (∃ i, i < n ∧ Cond G n k (G i)) := hex
  have HC : Hid (∀ t, t < n → w.cell? ⟨b, off + t, none⟩ = some (.float .f64 (G t))) := hc
  clear hex hc
  go_enter Try.func6, Try.ntmps6
  go_wp2
  go_loopw [5] (fun vi wr => ∃ (i m : Nat), vi = .int .i64 i ∧ i ≤ n ∧ wr = w.drewN m ∧ Hid (∀ i', i' < i → ¬ Cond G n k (G i'))) (fun vi _ => n - (intOf vi).toNat)
  case atStart => exact ⟨0, 0, rfl, Nat.zero_le _, rfl, fun i' h => absurd h (by omega)⟩
  case round =>
    obtain ⟨i, m, rfl, hi, hw, HI⟩ := hrel
    by_cases hlt : i < n
    · go_wp2
      go_loopw [6, 7, 8] (fun v6 v7 v8 wr2 => ∃ (j q : Nat), v8 = .int .i64 j ∧ j ≤ n ∧ v6 = .int .i64 (lowC G (G i) j) ∧ v7 = .int .i64 (tieC G (G i) j) ∧ wr2 = w.drewN q) (fun _ _ v8 _ => n - (intOf v8).toNat)
      case atStart => exact ⟨0, m, rfl, Nat.zero_le _, rfl, rfl, by first | rfl | exact hw⟩
      case round =>
        obtain ⟨j, q, rfl, hj, rfl, rfl, hw2⟩ := hrel
        have hb1 := cnt_le (fun t => ltF (G t) (G i)) j
        have hb2 := cnt_le (fun t => !ltF (G t) (G i) && !ltF (G i) (G t)) j
        change lowC G (G i) j ≤ j at hb1
        change tieC G (G i) j ≤ j at hb2
        obtain ⟨lo, hlo⟩ : ∃ lo, lo = lowC G (G i) j := ⟨_, rfl⟩
        obtain ⟨ti, hti⟩ : ∃ ti, ti = tieC G (G i) j := ⟨_, rfl⟩
        rw [← hlo] at hb1 ⊢
        rw [← hti] at hb2 ⊢
        have hcw : ∀ t, t < n → wr.cell? ⟨b, off + t, none⟩ = some (.float .f64 (G t)) := fun t ht => by rw [hw2]; exact HC.out t ht
        have HW2 : Hid (wr = w.drewN q) := hw2
        have HL : Hid (lo = lowC G (G i) j ∧ ti = tieC G (G i) j) := ⟨hlo, hti⟩
        clear hw2 hlo hti
        by_cases hjn : j < n
        · go_wp2_with fail
          go_big_quiet (first | (go_at_call 10; refine Calls.quiet_of_same (zzLess_go _ _ _)))
          go_wp2
          · have hl : ltF (G j) (G i) = true := by assumption
            go_roundw
            case rel => exact ⟨j + 1, q + nq, by simp, by omega, by rw [lowC_succ, ← HL.out.1, hl]; simp, by rw [tieC_succ, ← HL.out.2, hl]; simp, by rw [HW2.out, World.drewN_drewN]⟩
            case measure => simp [intOf]; omega
          · have hl : ltF (G j) (G i) = false := by assumption
            revert nq; intro nq1
            have hcw2 : ∀ t, t < n → (wr.drewN nq1).cell? ⟨b, off + t, none⟩ = some (.float .f64 (G t)) := hcw
            have HW3 : Hid (wr.drewN nq1 = w.drewN (q + nq1)) := by
              show _ = _
              rw [HW2.out, World.drewN_drewN]
            clear hcw HW2
            generalize wr.drewN nq1 = wr2 at hcw2 HW3 ⊢
            go_big_quiet (first | (go_at_call 10; refine Calls.quiet_of_same (zzLess_go _ _ _)))
            go_wp2
            · have hl2 : (!ltF (G i) (G j)) = true := by assumption
              go_roundw
              case rel => exact ⟨j + 1, q + nq1 + nq, by simp, by omega, by rw [lowC_succ, ← HL.out.1, hl]; simp, by rw [tieC_succ, ← HL.out.2, hl, hl2]; simp, by rw [HW3.out, World.drewN_drewN]⟩
              case measure => simp [intOf]; omega
            · have hl2 : (!ltF (G i) (G j)) = false := by assumption
              go_roundw
              case rel => exact ⟨j + 1, q + nq1 + nq, by simp, by omega, by rw [lowC_succ, ← HL.out.1, hl]; simp, by rw [tieC_succ, ← HL.out.2, hl, hl2]; simp, by rw [HW3.out, World.drewN_drewN]⟩
              case measure => simp [intOf]; omega
        · obtain rfl : j = n := by omega
          go_wp2
          · refine bodyPost_ret (results_tmp rfl _ _ _) rfl ?_
            exact ⟨G i, rfl, ⟨i, hlt, rfl, by rw [← HL.out.1]; omega, by rw [← HL.out.1, ← HL.out.2]; omega⟩, q, HW2.out⟩
          · have HN : ¬ Cond G j k (G i) := fun h => by
              have h1 := h.1
              have h2 := h.2
              rw [← HL.out.1, ← HL.out.2] at h2
              omega
            go_roundw
            case rel => exact ⟨i + 1, q, by simp, by omega, HW2.out, fun i' hi' => by
              rcases Nat.lt_or_eq_of_le (Nat.le_of_lt_succ hi') with h | rfl
              · exact HI.out i' h
              · exact HN⟩
            case measure => simp [intOf]; omega
          · have HN : ¬ Cond G j k (G i) := fun h => by
              have h1 := h.1
              rw [← HL.out.1] at h1
              omega
            go_roundw
            case rel => exact ⟨i + 1, q, by simp, by omega, HW2.out, fun i' hi' => by
              rcases Nat.lt_or_eq_of_le (Nat.le_of_lt_succ hi') with h | rfl
              · exact HI.out i' h
              · exact HN⟩
            case measure => simp [intOf]; omega
    · obtain rfl : i = n := by omega
      go_wp2
      exact absurd HX.out (fun ⟨i', h1, h2⟩ => HI.out i' h1 h2)

end Go.Proofs.Qxb6631213a
