/-
  Seat b6631213a. Float addition and division as the walk meets them; median (11) and ZZmedian (7).
-/
import Derived.Test.Qxb6631213aMed
import Derived.Laws.NewFold
namespace Go.Proofs.Qxb6631213a
open Go.RowKit Go.Sort Go.Proofs Ieee

/-- What x op y gives in the world w: the word, or a NaN off the tape. -/
def orNan (r : Option Nat) (x y : Nat) (w : World) : Nat := match r with
  | some r => r
  | none => Question.cut (.nanBits .f64 x y) (w.tape w.drawn (.nanBits .f64 x y))
def orDrew (r : Option Nat) (w : World) : World := match r with
  | some _ => w
  | none => w.drew

@[go_sem] theorem run_add_float (P : Program) (w : World) (t : TypeId) (x y : Nat) :
    (binOp .add t (.float .f64 x) (.float .f64 y)).run P w = .ok (.float .f64 (orNan (double.add x y) x y w)) (orDrew (double.add x y) w) := by
  have e : FloatKind.f64.format.add x y = double.add x y := rfl
  simp only [binOp, Op.floatArith]
  cases h : double.add x y with
  | some r => simp [e, h, orNan, orDrew]
  | none => simp [e, h, orNan, orDrew, Question.forced]

@[go_sem] theorem run_quo_float (P : Program) (w : World) (t : TypeId) (x y : Nat) :
    (binOp .quo t (.float .f64 x) (.float .f64 y)).run P w = .ok (.float .f64 (orNan (double.div x y) x y w)) (orDrew (double.div x y) w) := by
  have e : FloatKind.f64.format.div x y = double.div x y := rfl
  simp only [binOp, Op.floatArith]
  cases h : double.div x y with
  | some r => simp [e, h, orNan, orDrew]
  | none => simp [e, h, orNan, orDrew, Question.forced]

/-- r is what the operation gives, or a NaN where it gives nothing. -/
def Gives (o : Option Nat) (r : Nat) : Prop := o = some r ∨ (o = none ∧ nanF r = true)

theorem orNan_gives (o : Option Nat) (x y : Nat) (w : World) : Gives o (orNan o x y w) := by
  cases o with
  | some r => exact .inl rfl
  | none =>
    refine .inr ⟨rfl, ?_⟩
    rw [nanF_eq]
    refine decide_eq_true ?_
    simp only [orNan, Question.cut, rung, infR, Nat.reducePow, Nat.reduceSub]
    generalize w.tape w.drawn (.nanBits .f64 x y) = t
    have hu : t / 2 % 4503599627370495 < 4503599627370495 := Nat.mod_lt _ (by decide)
    generalize t / 2 % 4503599627370495 = u at hu ⊢
    rcases Nat.mod_two_eq_zero_or_one t with h | h <;> rw [h] <;> omega

theorem orDrew_below (o : Option Nat) (w : World) (B : Nat) : RowKit.Below B w (orDrew o w) := by
  cases o with
  | some r => exact Below.refl _ _
  | none => exact ⟨rfl, rfl, rfl, Nat.le_refl _, fun _ _ => rfl⟩

/-- m is the half of the sum of a and b, as the program reckons it. -/
def Half (a b m : Nat) : Prop := ∃ t, Gives (double.add a b) t ∧ Gives (double.div t 4611686018427387904) m

/-- m is the median of the sorted words s. -/
def MedOf (s : Array Nat) (m : Nat) : Prop := (s.size % 2 = 1 ∧ m = s[s.size / 2]!) ∨ (s.size % 2 = 0 ∧ Half s[s.size / 2 - 1]! s[s.size / 2]! m)

set_option maxRecDepth 100000 in
/-- median(values) where values is not empty. -/
theorem median_go (b off cap : Nat) (zs : List Nat) (hne : zs ≠ []) (hlen : zs.length ≤ 1048576) (w : World) (hb : b < w.heap.size) (hc : ∀ j, j < zs.length → w.cell? ⟨b, off + j, none⟩ = some (.float .f64 (zs[j]?.getD 0))) :
    Calls Try.prog 11 #[.slice (some ⟨b, off, none⟩) zs.length cap] w fun e W' => ∃ m, e = .returned (.float .f64 m) ∧ MedOf (Sort.sort ltF zs.toArray) m ∧ RowKit.Below w.heap.size w W' := by
  have hB1 : RowKit.Below w.heap.size w (w.alloc (.cells #[.slice (some ⟨b, off, none⟩) zs.length cap] 22)) := (Below.refl _ w).alloc (Nat.le_refl _) _
  have HS : Hid (Calls Try.prog 12 #[.func (.func 16) #[] #[.pointer (some ⟨w.heap.size, 0, none⟩)]] (w.alloc (.cells #[.slice (some ⟨b, off, none⟩) zs.length cap] 22)) fun e W' => ∃ g cap', e = .returned (.slice (some ⟨g, 0, none⟩) zs.length cap') ∧ Holds encF W' g 0 (Sort.sort ltF zs.toArray) ∧ RowKit.Below w.heap.size w W') := by
    refine (Sorted_flt w.heap.size (.slice (some ⟨b, off, none⟩) zs.length cap) zs hne hlen _ (by simp) (by simp) ?_).mono ?_
    · exact ⟨b, off, cap, rfl, by simp; omega, fun j hj => (hB1.cell (p := ⟨b, off + j, none⟩) hb).trans (hc j hj)⟩
    · rintro e W' ⟨g, cap', h1, h2, h3⟩
      exact ⟨g, cap', h1, h2, hB1.trans (h3.mono (by simp))⟩
  have hpos : 1 ≤ zs.length := by
    cases zs with
    | nil => exact absurd rfl hne
    | cons a l => simp
  clear hc hB1 hne hb
  have hsz : (Sort.sort ltF zs.toArray).size = zs.length := by rw [(sort_facts zs.toArray).1]; simp
  obtain ⟨s, hs⟩ : ∃ s, s = Sort.sort ltF zs.toArray := ⟨_, rfl⟩
  rw [← hs] at HS hsz ⊢
  clear hs
  obtain ⟨n, hn⟩ : ∃ n, n = zs.length := ⟨_, rfl⟩
  rw [← hn] at HS hsz hpos hlen ⊢
  clear hn
  have Hsz : Hid (s.size = n) := hsz
  clear hsz
  rcases Nat.mod_two_eq_zero_or_one n with hp | hp
  · have hp2 : ((n : Int) % 2 == 1) = false := by simp; omega
    have HP : Hid (n % 2 = 0) := hp
    have hn2 : 2 ≤ n := by omega
    clear hp
    obtain ⟨A, hA⟩ : ∃ A, A = s[n / 2 - 1]! := ⟨_, rfl⟩
    obtain ⟨B, hBB⟩ : ∃ B, B = s[n / 2]! := ⟨_, rfl⟩
    have HA : Hid (A = s[n / 2 - 1]!) := hA
    have HB : Hid (B = s[n / 2]!) := hBB
    clear hA hBB
    go_enter Try.func11, Try.ntmps11
    go_wp2_with (first
      | (go_at_call 13; refine (Values_flt _ _ _ _).mono ?_; rintro e w1 ⟨rfl, rfl⟩)
      | (go_at_call 12; refine HS.out.mono ?_; rintro e w2 ⟨g, cap', rfl, hH, hB⟩
         have hc1 : w2.cell? ⟨g, n / 2 - 1, none⟩ = some (.float .f64 A) := by
           have := (hH (n / 2 - 1) (by rw [Hsz.out]; omega)).1
           rw [HA.out]; simpa using this
         have hc2 : w2.cell? ⟨g, n / 2, none⟩ = some (.float .f64 B) := by
           have := (hH (n / 2) (by rw [Hsz.out]; omega)).1
           rw [HB.out]; simpa using this
         clear hH))
    go_region
    go_wp2
    go_ret
    refine ⟨_, rfl, .inr ⟨by rw [Hsz.out]; exact HP.out, ?_⟩, ?_⟩
    · rw [Hsz.out, ← HA.out, ← HB.out]
      exact ⟨_, orNan_gives _ _ _ _, orNan_gives _ _ _ _⟩
    · have hd : RowKit.Below w.heap.size w2 w2.drew := ⟨rfl, rfl, rfl, Nat.le_refl _, fun _ _ => rfl⟩
      exact ((hB.trans hd).trans (orDrew_below _ _ _)).trans (orDrew_below _ _ _)
  · have hp2 : ((n : Int) % 2 == 1) = true := by simp; omega
    have HP : Hid (n % 2 = 1) := hp
    clear hp
    obtain ⟨B, hBB⟩ : ∃ B, B = s[n / 2]! := ⟨_, rfl⟩
    have HB : Hid (B = s[n / 2]!) := hBB
    clear hBB
    go_enter Try.func11, Try.ntmps11
    go_wp2_with (first
      | (go_at_call 13; refine (Values_flt _ _ _ _).mono ?_; rintro e w1 ⟨rfl, rfl⟩)
      | (go_at_call 12; refine HS.out.mono ?_; rintro e w2 ⟨g, cap', rfl, hH, hB⟩
         have hc2 : w2.cell? ⟨g, n / 2, none⟩ = some (.float .f64 B) := by
           have := (hH (n / 2) (by rw [Hsz.out]; omega)).1
           rw [HB.out]; simpa using this
         clear hH))
    go_ret
    exact ⟨B, rfl, .inl ⟨by rw [Hsz.out]; exact HP.out, by rw [Hsz.out]; exact HB.out⟩, hB⟩

/-- ZZmedian(values). -/
theorem zzmedian_go (b off cap : Nat) (zs : List Nat) (hne : zs ≠ []) (hlen : zs.length ≤ 1048576) (w : World) (hb : b < w.heap.size) (hc : ∀ j, j < zs.length → w.cell? ⟨b, off + j, none⟩ = some (.float .f64 (zs[j]?.getD 0))) :
    Calls Try.prog 7 #[.slice (some ⟨b, off, none⟩) zs.length cap] w fun e W' => ∃ m, e = .returned (.float .f64 m) ∧ MedOf (Sort.sort ltF zs.toArray) m ∧ RowKit.Below w.heap.size w W' := by
  have HM : Hid (Calls Try.prog 11 #[.slice (some ⟨b, off, none⟩) zs.length cap] w fun e W' => ∃ m, e = .returned (.float .f64 m) ∧ MedOf (Sort.sort ltF zs.toArray) m ∧ RowKit.Below w.heap.size w W') := median_go b off cap zs hne hlen w hb hc
  clear hc hne hb hlen
  go_enter Try.func7, Try.ntmps7
  go_wp2_with (go_at_call 11; refine HM.out.mono ?_; rintro e w1 ⟨m, rfl, hm, hB⟩
               have HMM : Hid (MedOf (Sort.sort ltF zs.toArray) m) := hm
               clear hm)
  go_ret
  exact ⟨m, rfl, HMM.out, hB⟩

end Go.Proofs.Qxb6631213a
