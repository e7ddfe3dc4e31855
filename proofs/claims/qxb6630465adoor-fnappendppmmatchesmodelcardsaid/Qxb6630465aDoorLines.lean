/-
  THE PLAIN LAW: of the text 'hdr ++ body': how many blanks and line ends, and that no line is longer than 70.
-/
import Derived.Test.Qxb6630465aDoorPpm
namespace Go.Proofs.Qxb6630465aDoor

/-- (blanks and line ends so far, characters on this line) -/
def stp (s : Nat × Nat) (c : Int) : Nat × Nat := if c = 10 then (s.1 + 1, 0) else if c = 32 then (s.1 + 1, s.2 + 1) else (s.1, s.2 + 1)
def scan (s : Nat × Nat) (l : List Int) : Nat × Nat := l.foldl stp s
theorem scan_append (s : Nat × Nat) (a b : List Int) : scan s (a ++ b) = scan (scan s a) b := by simp [scan]

/-- from s over l to t, and on the way no line is longer than 70 -/
def Runs (s : Nat × Nat) (l : List Int) (t : Nat × Nat) : Prop := scan s l = t ∧ ∀ i, i ≤ l.length → (scan s (l.take i)).2 ≤ 70

theorem Runs.append {s t u : Nat × Nat} {a b : List Int} (h1 : Runs s a t) (h2 : Runs t b u) : Runs s (a ++ b) u := by
  refine ⟨by rw [scan_append, h1.1, h2.1], fun i hi => ?_⟩
  rcases Nat.lt_or_ge a.length i with h | h
  · have e : (a ++ b).take i = a ++ b.take (i - a.length) := by
      rw [List.take_append, List.take_of_length_le (by omega)]
    rw [e, scan_append, h1.1]
    refine h2.2 _ ?_
    simp at hi
    omega
  · have e : (a ++ b).take i = a.take i := by rw [List.take_append, Nat.sub_eq_zero_of_le h]; simp
    rw [e]
    exact h1.2 i h

theorem runs_nil (s : Nat × Nat) (h : s.2 ≤ 70) : Runs s [] s := ⟨rfl, fun i hi => by simpa [scan] using h⟩

theorem runs_cons {s t : Nat × Nat} {c : Int} {l : List Int} (hs : s.2 ≤ 70) (h : Runs (stp s c) l t) : Runs s (c :: l) t := by
  refine ⟨by simpa [scan] using h.1, fun i hi => ?_⟩
  cases i with
  | zero => simpa [scan] using hs
  | succ i => simpa [scan] using h.2 i (by simpa using hi)

/-- characters that are neither blank nor line end -/
theorem runs_plain : ∀ (l : List Int) (s : Nat × Nat), (∀ c ∈ l, c ≠ 10 ∧ c ≠ 32) → s.2 + l.length ≤ 70 → Runs s l (s.1, s.2 + l.length)
  | [], s, _, h => by simpa using runs_nil s (by simpa using h)
  | c :: l, s, hc, h => by
    have h1 := hc c (by simp)
    have e : stp s c = (s.1, s.2 + 1) := by simp [stp, h1.1, h1.2]
    have hr := runs_plain l (s.1, s.2 + 1) (fun x hx => hc x (by simp [hx])) (by simp at h ⊢; omega)
    refine runs_cons (by simp at h; omega) ?_
    rw [e]
    have e2 : (s.1, s.2 + (c :: l).length) = ((s.1, s.2 + 1) : Nat × Nat).map id (· + l.length) := by simp; omega
    rw [e2]; exact hr

theorem decDigits_mem : ∀ (u : Nat) (c : UInt8), c ∈ Lib.decDigits u → 48 ≤ c.toNat ∧ c.toNat ≤ 57 := by
  intro u
  induction u using Nat.strongRecOn with
  | _ u ih =>
    intro c hc
    rw [Lib.decDigits] at hc
    have key : ∀ d : Nat, d < 10 → 48 ≤ (UInt8.ofNat (48 + d)).toNat ∧ (UInt8.ofNat (48 + d)).toNat ≤ 57 := by
      intro d hd
      simp only [UInt8.toNat_ofNat']
      omega
    split at hc
    · rename_i h
      obtain rfl := List.mem_singleton.1 hc; exact key u h
    · rename_i h
      rcases List.mem_append.1 hc with h1 | h1
      · exact ih (u / 10) (by omega) c h1
      · obtain rfl := List.mem_singleton.1 h1; exact key (u % 10) (by omega)

theorem itoa_plain (n : Int) : ∀ c ∈ bz (Lib.itoa n), c ≠ 10 ∧ c ≠ 32 := by
  intro c hc
  simp only [bz, List.mem_map] at hc
  obtain ⟨u, hu, rfl⟩ := hc
  have h : 45 ≤ u.toNat := by
    unfold Lib.itoa at hu
    split at hu
    · rcases List.mem_cons.1 hu with rfl | h1
      · decide
      · have := (decDigits_mem _ _ h1).1; omega
    · have := (decDigits_mem _ _ hu).1; omega
  omega

theorem hdr_runs (W H : Int) (hW : InI W) (hH : InI H) : Runs (0, 0) (hdr W H) (4, 0) := by
  have lW := Lib.itoa_length_le W hW.1 hW.2
  have lH := Lib.itoa_length_le H hH.1 hH.2
  have r1 : Runs (0, 0) [80, 51, 10] (1, 0) := ⟨by decide, by decide⟩
  have r2 := runs_plain (bz (Lib.itoa W)) (1, 0) (itoa_plain W) (by simp [bz_length]; omega)
  have r3 : Runs (1, 0 + (bz (Lib.itoa W)).length) [32] (2, 0 + (bz (Lib.itoa W)).length + 1) := by
    refine runs_cons (by simp [bz_length]; omega) ?_
    simpa [stp] using runs_nil (2, (bz (Lib.itoa W)).length + 1) (by simp [bz_length]; omega)
  have r4 := runs_plain (bz (Lib.itoa H)) (2, 0 + (bz (Lib.itoa W)).length + 1) (itoa_plain H) (by simp [bz_length]; omega)
  have r5 : Runs (2, 0 + (bz (Lib.itoa W)).length + 1 + (bz (Lib.itoa H)).length) [10] (3, 0) := by
    refine runs_cons (by simp [bz_length]; omega) ?_
    simpa [stp] using runs_nil (3, 0) (by simp)
  have r6 : Runs (3, 0) [50, 53, 53, 10] (4, 0) := ⟨by decide, by decide⟩
  exact ((((r1.append r2).append r3).append r4).append r5).append r6

/-- a pixel's colour: two blanks, at most eleven characters -/
theorem col_runs (W : Int) (ps : List (Int × Int)) (wat : List Bool) (k : Nat) (a b : Nat) (hb : b ≤ 48) : ∃ m, m ≤ 11 ∧ Runs (a, b) (pxCol W ps wat k) (a + 2, b + m) := by
  have pl : ∀ (a b : Nat) (c : Int), c ≠ 10 → c ≠ 32 → stp (a, b) c = (a, b + 1) := fun a b c h1 h2 => by simp [stp, h1, h2]
  have bl : ∀ (a b : Nat), stp (a, b) 32 = (a + 1, b + 1) := fun a b => by simp [stp]
  unfold pxCol
  split
  · refine ⟨7, by omega, ?_⟩
    unfold pxWater
    repeat (refine runs_cons (by simp; omega) ?_; first | rw [bl] | rw [pl _ _ _ (by decide) (by decide)])
    exact runs_nil _ (by simp; omega)
  · split
    · refine ⟨7, by omega, ?_⟩
      unfold pxHill
      repeat (refine runs_cons (by simp; omega) ?_; first | rw [bl] | rw [pl _ _ _ (by decide) (by decide)])
      exact runs_nil _ (by simp; omega)
    · refine ⟨11, by omega, ?_⟩
      unfold pxNone
      repeat (refine runs_cons (by simp; omega) ?_; first | rw [bl] | rw [pl _ _ _ (by decide) (by decide)])
      exact runs_nil _ (by simp; omega)

/-- what stands on the line ahead of pixel k: at most 12 a pixel of this row's five -/
theorem body_runs (W : Int) (hW : 0 < W) (ps : List (Int × Int)) (wat : List Bool) : ∀ k : Nat, ∃ b : Nat, (b : Int) ≤ 12 * ((k : Int) % W % 5) ∧ Runs (4, 0) (body W ps wat k) (4 + 3 * k, b)
  | 0 => ⟨0, by simp, by simpa [body] using runs_nil (4, 0) (by simp)⟩
  | k + 1 => by
    obtain ⟨b, hb, hr⟩ := body_runs W hW ps wat k
    have hm0 : 0 ≤ (k : Int) % W := Int.emod_nonneg _ (by omega)
    have hm1 : (k : Int) % W < W := Int.emod_lt_of_pos _ hW
    obtain ⟨m, hm, hc⟩ := col_runs W ps wat k (4 + 3 * k) b (by omega)
    have hstep : ((k + 1 : Nat) : Int) % W = if (k : Int) % W = W - 1 then 0 else (k : Int) % W + 1 := by
      have e : ((k + 1 : Nat) : Int) = (k : Int) + 1 := by omega
      rw [e, Int.add_emod]
      split
      · rename_i h
        by_cases h1 : W = 1
        · subst h1; simp
        · have : (1 : Int) % W = 1 := Int.emod_eq_of_lt (by omega) (by omega)
          rw [this, h]
          have : W - 1 + 1 = W := by omega
          rw [this, Int.emod_self]
      · rename_i h
        have h1 : (1 : Int) % W = 1 := Int.emod_eq_of_lt (by omega) (by omega)
        rw [h1, Int.emod_eq_of_lt (by omega) (by omega)]
    by_cases hE : (k : Int) % W = W - 1 ∨ (k : Int) % W % 5 = 4
    · have e : pxEnd W ((k : Int) % W) = 10 := by rw [pxEnd, if_pos hE]
      refine ⟨0, by have : 0 ≤ ((k + 1 : Nat) : Int) % W % 5 := Int.emod_nonneg _ (by omega); omega, ?_⟩
      rw [body, pix, e]
      refine hr.append (hc.append ?_)
      refine runs_cons (by simp; omega) ?_
      have : stp (4 + 3 * k + 2, b + m) 10 = (4 + 3 * (k + 1), 0) := by simp [stp]; omega
      rw [this]
      exact runs_nil _ (by simp)
    · have e : pxEnd W ((k : Int) % W) = 32 := by rw [pxEnd, if_neg hE]
      refine ⟨b + m + 1, ?_, ?_⟩
      · rw [hstep, if_neg (by omega)]; omega
      · rw [body, pix, e]
        refine hr.append (hc.append ?_)
        refine runs_cons (by simp; omega) ?_
        have : stp (4 + 3 * k + 2, b + m) 32 = (4 + 3 * (k + 1), b + m + 1) := by simp [stp]; omega
        rw [this]
        exact runs_nil _ (by simp; omega)

/-- THE PLAIN LAW -/
theorem text_runs (W H : Int) (hW : InI W) (hH : InI H) (ps : List (Int × Int)) (wat : List Bool) (n : Nat) (hp : 0 < n → 0 < W) : ∃ b, Runs (0, 0) (hdr W H ++ body W ps wat n) (4 + 3 * n, b) := by
  rcases Nat.eq_zero_or_pos n with rfl | h
  · exact ⟨0, by simpa [body] using hdr_runs W H hW hH⟩
  · obtain ⟨b, _, hr⟩ := body_runs W (hp h) ps wat n
    exact ⟨b, (hdr_runs W H hW hH).append hr⟩

end Go.Proofs.Qxb6630465aDoor
