/-
  Seat b6631213a. Plain laws: order statistics by counting and by sorting agree; the mean respects the two zeros and the NaNs.
-/
import Derived.Test.Qxb6631213aKth
namespace Go.Proofs.Qxb6631213a
open Go.Sort Ieee

/-- Alike for the program: both NaN, or of one value. -/
def Eqv (a b : Nat) : Prop := (nanF a = true ∧ nanF b = true) ∨ (nanF a = false ∧ nanF b = false ∧ val a = val b)

theorem Eqv.refl (a : Nat) : Eqv a a := by
  cases h : nanF a
  · exact .inr ⟨h, h, rfl⟩
  · exact .inl ⟨h, h⟩
theorem Eqv.symm {a b : Nat} : Eqv a b → Eqv b a
  | .inl ⟨h1, h2⟩ => .inl ⟨h2, h1⟩
  | .inr ⟨h1, h2, h3⟩ => .inr ⟨h2, h1, h3.symm⟩
theorem Eqv.trans {a b c : Nat} (h : Eqv a b) (k : Eqv b c) : Eqv a c := by
  rcases h with ⟨h1, h2⟩ | ⟨h1, h2, h3⟩ <;> rcases k with ⟨k1, k2⟩ | ⟨k1, k2, k3⟩
  · exact .inl ⟨h1, k2⟩
  · rw [h2] at k1; cases k1
  · rw [h2] at k1; cases k1
  · exact .inr ⟨h1, k2, h3.trans k3⟩

theorem eqv_of_not_lt {a b : Nat} (h1 : ltF a b = false) (h2 : ltF b a = false) : Eqv a b := by
  rw [ltF_eq] at h1 h2
  cases ha : nanF a <;> cases hb : nanF b <;> simp [ha, hb] at h1 h2
  · exact .inr ⟨ha, hb, by omega⟩
  · exact .inl ⟨ha, hb⟩

theorem sameF_of_eqv {a b : Nat} (h : Eqv a b) : sameF a b = true := by
  rcases h with ⟨h1, h2⟩ | ⟨h1, h2, h3⟩
  · simp [sameF, h1, h2]
  · simp [sameF, h1, h2, h3]

/-! ### Counting -/
theorem cnt_countP (zs : List Nat) (p : Nat → Bool) : ∀ j, j ≤ zs.length → cnt (fun t => p (zs[t]?.getD 0)) j = (zs.take j).countP p
  | 0, _ => by simp [cnt]
  | j + 1, h => by
    have e : zs.take (j + 1) = zs.take j ++ [zs[j]] := by rw [List.take_add_one]; simp [List.getElem?_eq_getElem (show j < zs.length by omega)]
    rw [cnt, cnt_countP zs p j (by omega), e, List.countP_append]
    simp [List.getElem?_eq_getElem (show j < zs.length by omega), List.countP_cons]

/-- The word r is the k-th of the list, by counting. -/
def KthL (zs : List Nat) (k r : Nat) : Prop := zs.countP (fun x => ltF x r) ≤ k ∧ k < zs.countP (fun x => ltF x r) + zs.countP (fun x => !ltF x r && !ltF r x)

theorem cond_iff (zs : List Nat) (k r : Nat) : Cond (fun t => zs[t]?.getD 0) zs.length k r ↔ KthL zs k r := by
  have h1 := cnt_countP zs (fun x => ltF x r) zs.length (Nat.le_refl _)
  have h2 := cnt_countP zs (fun x => !ltF x r && !ltF r x) zs.length (Nat.le_refl _)
  rw [List.take_length] at h1 h2
  unfold Cond KthL lowC tieC
  rw [h1, h2]

theorem KthL.perm {zs ys : List Nat} (h : zs.Perm ys) {k r : Nat} (hk : KthL zs k r) : KthL ys k r := by
  unfold KthL at hk ⊢
  rwa [h.countP_eq, h.countP_eq] at hk

/-- What is not above r: what is below it, and what ties with it. -/
theorem low_tie (zs : List Nat) (r : Nat) : zs.countP (fun x => ltF x r) + zs.countP (fun x => !ltF x r && !ltF r x) = zs.countP (fun x => !ltF r x) := by
  induction zs with
  | nil => rfl
  | cons a l ih =>
    simp only [List.countP_cons]
    have h := swo_ltF.trans a r a
    have h2 := swo_ltF.irrefl a
    cases h3 : ltF a r <;> cases h4 : ltF r a
    · simp; omega
    · simp; omega
    · simp; omega
    · rw [h3, h4] at h; simp [h2] at h

theorem countP_split (l : List Nat) (k : Nat) (p : Nat → Bool) : l.countP p = (l.take k).countP p + (l.drop k).countP p := by
  rw [← List.countP_append, List.take_append_drop]

theorem countP_le_of (l : List Nat) (k : Nat) (p : Nat → Bool) (h : ∀ j, k ≤ j → (hj : j < l.length) → p l[j] = false) : l.countP p ≤ k := by
  rw [countP_split l k p]
  have h1 : (l.drop k).countP p = 0 := by
    rw [List.countP_eq_zero]
    intro a ha
    obtain ⟨i, hi, rfl⟩ := List.getElem_of_mem ha
    rw [List.getElem_drop]
    simp only [List.length_drop] at hi
    rw [h (k + i) (by omega) (by omega)]
    simp
  have h2 : (l.take k).countP p ≤ (l.take k).length := List.countP_le_length
  rw [List.length_take] at h2
  omega

theorem lt_countP_of (l : List Nat) (k : Nat) (p : Nat → Bool) (hk : k < l.length) (h : ∀ j, j ≤ k → (hj : j < l.length) → p l[j] = true) : k < l.countP p := by
  rw [countP_split l (k + 1) p]
  have h1 : (l.take (k + 1)).countP p = (l.take (k + 1)).length := by
    rw [List.countP_eq_length]
    intro a ha
    obtain ⟨i, hi, rfl⟩ := List.getElem_of_mem ha
    rw [List.getElem_take]
    simp only [List.length_take] at hi
    exact h i (by omega) (by omega)
  rw [List.length_take] at h1
  omega

section
variable {s : List Nat} (hs : ∀ i j, i < j → (hj : j < s.length) → ltF s[j] s[i]! = false)
include hs

theorem sorted_le {i j : Nat} (hij : i ≤ j) (hj : j < s.length) : ltF s[j]! s[i]! = false := by
  rcases Nat.lt_or_eq_of_le hij with h | rfl
  · have := hs i j h hj
    rwa [getElem!_pos s j hj]
  · exact swo_ltF.irrefl _

/-- The k-th of a sorted list, by counting. -/
theorem kthL_sorted {k : Nat} (hk : k < s.length) : KthL s k s[k]! := by
  constructor
  · refine countP_le_of s k _ fun j h hj => ?_
    have := sorted_le hs h hj
    rwa [getElem!_pos s j hj] at this
  · rw [low_tie]
    refine lt_countP_of s k _ hk fun j h hj => ?_
    have := sorted_le hs h hk
    rw [getElem!_pos s j hj] at this
    rw [this]
    rfl

theorem kthL_eqv {k r : Nat} (hk : k < s.length) (h : KthL s k r) : Eqv r s[k]! := by
  obtain ⟨h1, h2⟩ := h
  rw [low_tie] at h2
  refine eqv_of_not_lt ?_ ?_
  · cases hr : ltF r s[k]! with
    | false => rfl
    | true =>
      refine absurd (countP_le_of s k (fun x => !ltF r x) fun j hj hjs => ?_) (by omega)
      have h3 := sorted_le hs hj hjs
      rw [getElem!_pos s j hjs] at h3
      cases h4 : ltF r s[j] with
      | true => rfl
      | false =>
        have := swo_ltF.ntrans r s[j] s[k]! h4 h3
        rw [hr] at this
        cases this
  · cases hr : ltF s[k]! r with
    | false => rfl
    | true =>
      refine absurd (lt_countP_of s k (fun x => ltF x r) hk fun j hj hjs => ?_) (by omega)
      have h3 := sorted_le hs hj hk
      rw [getElem!_pos s j hjs] at h3
      cases h4 : ltF s[j] r with
      | true => rfl
      | false =>
        have := swo_ltF.ntrans s[k]! s[j] r h3 h4
        rw [hr] at this
        cases this
end

/-- The sorted words as a list. -/
def srt (zs : List Nat) : List Nat := (Sort.sort ltF zs.toArray).toList
theorem srt_perm (zs : List Nat) : (srt zs).Perm zs := by simpa [srt] using (sort_facts zs.toArray).2.1
theorem srt_length (zs : List Nat) : (srt zs).length = zs.length := by simpa [srt] using (sort_facts zs.toArray).1
theorem srt_get (zs : List Nat) (k : Nat) : (Sort.sort ltF zs.toArray)[k]! = (srt zs)[k]! := by
  rw [srt]; exact Array.getElem!_toList.symm
theorem srt_sorted (zs : List Nat) : ∀ i j, i < j → (hj : j < (srt zs).length) → ltF (srt zs)[j] (srt zs)[i]! = false := fun i j hij hj => by
  have := (sort_facts zs.toArray).2.2 i j hij (by rw [srt_length] at hj; simpa using hj)
  rw [srt_get, srt_get] at this
  rwa [getElem!_pos (srt zs) j hj] at this

theorem kth_exists (zs : List Nat) {k : Nat} (hk : k < zs.length) : ∃ i, i < zs.length ∧ Cond (fun t => zs[t]?.getD 0) zs.length k (zs[i]?.getD 0) := by
  have hk' : k < (srt zs).length := by rw [srt_length]; exact hk
  have h := (kthL_sorted (srt_sorted zs) hk').perm (srt_perm zs)
  have hm : (srt zs)[k]! ∈ zs := (srt_perm zs).mem_iff.1 (by rw [getElem!_pos (srt zs) k hk']; exact List.getElem_mem hk')
  obtain ⟨i, hi, e⟩ := List.getElem_of_mem hm
  refine ⟨i, hi, (cond_iff zs k _).2 ?_⟩
  rw [List.getElem?_eq_getElem hi, Option.getD_some, e]
  exact h

theorem kth_eqv (zs ys : List Nat) (hp : ys.Perm zs) {k r : Nat} (hk : k < zs.length) (h : Cond (fun t => zs[t]?.getD 0) zs.length k r) : Eqv r (Sort.sort ltF ys.toArray)[k]! := by
  rw [srt_get]
  have hl : (srt ys).length = zs.length := by rw [srt_length]; exact hp.length_eq
  exact kthL_eqv (srt_sorted ys) (by omega) (((cond_iff zs k r).1 h).perm (hp.symm.trans (srt_perm ys).symm))

/-! ### The mean -/
/-- One datum, or two zeros of one place. -/
def Alike (d e : Datum) : Prop := d = e ∨ ∃ s t i, d = .number s 0 i ∧ e = .number t 0 i
def AlikeO : Option Datum → Option Datum → Prop
  | none, none => True
  | some d, some e => Alike d e
  | _, _ => False

theorem AlikeO.refl (d : Option Datum) : AlikeO d d := by cases d <;> simp [AlikeO, Alike]

theorem signed_zero (s : Bool) (k : Nat) : signed s 0 k = 0 := by cases s <;> simp [signed]

theorem sum_zero_left (s s' : Bool) (i : Int) (e : Datum) : AlikeO (Datum.sum (.number s 0 i) e) (Datum.sum (.number s' 0 i) e) := by
  cases e with
  | nan t f => exact True.intro
  | infinity t => exact .inl rfl
  | number t n j =>
    simp only [Datum.sum, signed_zero, Int.zero_add]
    generalize signed t n (j - min i j).toNat = X
    by_cases h : X = 0
    · subst h; exact .inr ⟨_, _, _, rfl, rfl⟩
    · simp only [h, if_false]; exact .inl rfl

theorem sum_zero_right (s s' : Bool) (i : Int) (e : Datum) : AlikeO (Datum.sum e (.number s 0 i)) (Datum.sum e (.number s' 0 i)) := by
  cases e with
  | nan t f => exact True.intro
  | infinity t => exact .inl rfl
  | number t n j =>
    simp only [Datum.sum, signed_zero, Int.add_zero]
    generalize signed t n (j - min j i).toNat = X
    by_cases h : X = 0
    · subst h; exact .inr ⟨_, _, _, rfl, rfl⟩
    · simp only [h, if_false]; exact .inl rfl

theorem Alike.trans {a b c : Datum} (h : Alike a b) (k : Alike b c) : Alike a c := by
  rcases h with rfl | ⟨s, t, i, rfl, rfl⟩
  · exact k
  · rcases k with rfl | ⟨s', t', i', h1, rfl⟩
    · exact .inr ⟨_, _, _, rfl, rfl⟩
    · cases h1; exact .inr ⟨_, _, _, rfl, rfl⟩

theorem AlikeO.trans : ∀ {a b c : Option Datum}, AlikeO a b → AlikeO b c → AlikeO a c
  | none, none, none, _, _ => True.intro
  | some _, some _, some _, h, k => Alike.trans h k
  | none, some _, _, h, _ => h.elim
  | some _, none, _, h, _ => h.elim
  | some _, some _, none, _, k => k.elim
  | none, none, some _, _, k => k.elim

theorem sum_alike {d d' e e' : Datum} (h : Alike d d') (k : Alike e e') : AlikeO (d.sum e) (d'.sum e') := by
  have h1 : AlikeO (d.sum e) (d'.sum e) := by
    rcases h with rfl | ⟨s, t, i, rfl, rfl⟩
    · exact AlikeO.refl _
    · exact sum_zero_left _ _ _ _
  have h2 : AlikeO (d'.sum e) (d'.sum e') := by
    rcases k with rfl | ⟨s, t, i, rfl, rfl⟩
    · exact AlikeO.refl _
    · exact sum_zero_right _ _ _ _
  exact h1.trans h2

theorem quotient_alike {d d' : Datum} (k : Nat) (e : Datum) (h : Alike d d') : AlikeO (d.quotient k e) (d'.quotient k e) := by
  rcases h with rfl | ⟨s, t, i, rfl, rfl⟩
  · exact AlikeO.refl _
  · cases e with
    | nan t f => exact True.intro
    | infinity t => exact .inr ⟨_, _, _, rfl, rfl⟩
    | number t n j =>
      simp only [Datum.quotient]
      by_cases h : n = 0
      · simp [h, AlikeO]
      · simp only [h, if_false]
        have e : ∀ m : Nat, 2 * (0 <<< m / n) + (0 <<< m % n != 0).toNat = 0 := fun m => by simp
        rw [e]
        exact .inr ⟨_, _, _, rfl, rfl⟩

theorem word_zero (s : Bool) : rung (double.word s 0) = 0 := by cases s <;> rfl
theorem nan_of_zero {x : Nat} (h : rung x = 0) : nanF x = false := nanF_false.2 (by rw [h]; exact Nat.zero_le _)
theorem val_of_zero {x : Nat} (h : rung x = 0) : val x = 0 := by unfold val; rw [h]; simp [rungVal]

theorem write_alike {d e : Datum} (h : Alike d e) : Eqv (double.write d) (double.write e) := by
  rcases h with rfl | ⟨s, t, i, rfl, rfl⟩
  · exact Eqv.refl _
  · have e1 : double.write (.number s 0 i) = double.word s 0 := by simp [Format.write, Format.nearest]
    have e2 : double.write (.number t 0 i) = double.word t 0 := by simp [Format.write, Format.nearest]
    rw [e1, e2]
    exact .inr ⟨nan_of_zero (word_zero s), nan_of_zero (word_zero t), by rw [val_of_zero (word_zero s), val_of_zero (word_zero t)]⟩

theorem gives_eqv {o o' : Option Datum} {t t' : Nat} (h : AlikeO o o') (g : Gives (o.map double.write) t) (g' : Gives (o'.map double.write) t') : Eqv t t' := by
  cases o with
  | none => cases o' with
    | none =>
      rcases g with g | ⟨_, g⟩
      · cases g
      · rcases g' with g' | ⟨_, g'⟩
        · cases g'
        · exact .inl ⟨g, g'⟩
    | some e => exact h.elim
  | some d => cases o' with
    | none => exact h.elim
    | some e =>
      rcases g with g | ⟨g, _⟩
      · rcases g' with g' | ⟨g', _⟩
        · cases g; cases g'; exact write_alike h
        · cases g'
      · cases g

theorem read_alike {a b : Nat} (h : Eqv a b) : Alike (double.read a) (double.read b) ∨ (nanF a = true ∧ nanF b = true) := by
  rcases h with h | ⟨h1, h2, h3⟩
  · exact .inr h
  · refine .inl ?_
    have e : rung a = rung b := rungVal_inj (by rw [← abs_val, ← abs_val, h3])
    by_cases h0 : rung a = 0
    · refine .inr ⟨sgn a, sgn b, -1074, ?_, ?_⟩
      · rw [read_eq, h0]; rfl
      · rw [read_eq, ← e, h0]; rfl
    · have hp : 0 < rungVal (rung a) := rungVal_pos (by omega)
      have hs : sgn a = sgn b := by
        unfold val at h3
        rw [← e] at h3
        cases ha : sgn a <;> cases hb : sgn b <;> simp [ha, hb] at h3 ⊢ <;> omega
      refine .inl ?_
      rw [read_eq, read_eq, e, hs]

theorem nan_iff {a : Nat} (h : nanF a = true) : ∃ s f, double.read a = .nan s f := ⟨_, _, read_nan a (by rw [nanF_eq] at h; simpa using h)⟩

theorem add_eqv {a b a' b' t t' : Nat} (h : Eqv a a') (k : Eqv b b') (g : Gives (double.add a b) t) (g' : Gives (double.add a' b') t') : Eqv t t' := by
  refine gives_eqv ?_ g g'
  rcases read_alike h with h | ⟨h1, h2⟩
  · rcases read_alike k with k | ⟨k1, k2⟩
    · exact sum_alike h k
    · obtain ⟨s, f, e⟩ := nan_iff k1
      obtain ⟨s', f', e'⟩ := nan_iff k2
      rw [e, e']
      cases double.read a <;> cases double.read a' <;> exact True.intro
  · obtain ⟨s, f, e⟩ := nan_iff h1
    obtain ⟨s', f', e'⟩ := nan_iff h2
    rw [e, e']
    exact True.intro

theorem div_eqv {a a' c t t' : Nat} (h : Eqv a a') (g : Gives (double.div a c) t) (g' : Gives (double.div a' c) t') : Eqv t t' := by
  refine gives_eqv ?_ g g'
  rcases read_alike h with h | ⟨h1, h2⟩
  · exact quotient_alike _ _ h
  · obtain ⟨s, f, e⟩ := nan_iff h1
    obtain ⟨s', f', e'⟩ := nan_iff h2
    rw [e, e']
    exact True.intro

theorem half_eqv {a b a' b' m m' : Nat} (h : Eqv a a') (k : Eqv b b') (g : Half a b m) (g' : Half a' b' m') : Eqv m m' := by
  obtain ⟨t, g1, g2⟩ := g
  obtain ⟨t', g1', g2'⟩ := g'
  exact div_eqv (add_eqv h k g1 g1') g2 g2'

end Go.Proofs.Qxb6631213a
