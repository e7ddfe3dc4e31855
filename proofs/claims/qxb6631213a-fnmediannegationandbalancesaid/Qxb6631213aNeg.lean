/-
  Seat b6631213a. Negation of words; the median of the negated list.
-/
import Derived.Test.Qxb6631213aFl3
namespace Go.Proofs.Qxb6631213a
open Ieee

/-- The negated word, as the program makes it. -/
def negW (x : Nat) : Nat := Op.negFloat .f64 x

theorem negW_rung (x : Nat) : rung (negW x) = rung x := by
  show (x ^^^ 2 ^ 63) % 2 ^ 63 = x % 2 ^ 63
  rw [Nat.xor_mod_two_pow]
  simp

theorem sgn_testBit (x : Nat) : sgn x = x.testBit 63 := by
  rw [Nat.testBit_eq_decide_div_mod_eq]
  rfl

theorem negW_sgn (x : Nat) : sgn (negW x) = !sgn x := by
  rw [sgn_testBit, sgn_testBit]
  show (x ^^^ 2 ^ 63).testBit 63 = _
  rw [Nat.testBit_xor, Nat.testBit_two_pow_self]
  simp

theorem negW_val (x : Nat) : val (negW x) = -val x := by
  unfold val
  rw [negW_rung, negW_sgn]
  cases sgn x <;> simp

theorem negW_nan (x : Nat) : nanF (negW x) = nanF x := by rw [nanF_eq, nanF_eq, negW_rung]

theorem negW_eqv {a b : Nat} (h : Eqv a b) : Eqv (negW a) (negW b) := by
  rcases h with ⟨h1, h2⟩ | ⟨h1, h2, h3⟩
  · exact .inl ⟨by rw [negW_nan, h1], by rw [negW_nan, h2]⟩
  · exact .inr ⟨by rw [negW_nan, h1], by rw [negW_nan, h2], by rw [negW_val, negW_val, h3]⟩

theorem read_negW (x : Nat) : double.read (negW x) = (double.read x).opposite := by
  rw [read_eq, read_eq, negW_rung, negW_sgn]
  split
  · rfl
  · split
    · rfl
    · split <;> rfl

/-- Of two data, each the opposite of the other (two zeros are that too). -/
def OppO : Option Datum → Option Datum → Prop
  | none, none => True
  | some x, some y => Alike y x.opposite
  | _, _ => False

theorem signed_opp (s : Bool) (m k : Nat) : signed (!s) m k = -signed s m k := by cases s <;> simp [signed]

theorem sum_opp (d e : Datum) : OppO (d.sum e) (e.opposite.sum d.opposite) := by
  cases d with
  | nan s f => cases e <;> exact True.intro
  | infinity s => cases e with
    | nan t f => exact True.intro
    | infinity t => cases s <;> cases t <;> simp [Datum.sum, Datum.opposite, OppO, Alike]
    | number t n j => exact .inl rfl
  | number s m i => cases e with
    | nan t f => exact True.intro
    | infinity t => exact .inl rfl
    | number t n j =>
      simp only [Datum.sum, Datum.opposite, signed_opp, OppO]
      rw [Int.min_comm j i]
      generalize signed s m (i - min i j).toNat = X
      generalize signed t n (j - min i j).toNat = Y
      by_cases h : X + Y = 0
      · have h' : -Y + -X = 0 := by omega
        rw [h, h']
        exact .inr ⟨_, _, _, rfl, rfl⟩
      · have h' : ¬ -Y + -X = 0 := by omega
        simp only [h, h', if_false]
        refine .inl ?_
        rw [show (-Y + -X).natAbs = (X + Y).natAbs by omega]
        congr 1
        by_cases h2 : X + Y < 0
        · rw [decide_eq_true h2, decide_eq_false (by omega)]; rfl
        · rw [decide_eq_false h2, decide_eq_true (by omega)]; rfl

theorem quotient_opp (k : Nat) (d e : Datum) : OppO (d.quotient k e) (d.opposite.quotient k e) := by
  cases d with
  | nan s f => cases e <;> exact True.intro
  | infinity s => cases e with
    | nan t f => exact True.intro
    | infinity t => exact True.intro
    | number t n j => cases s <;> cases t <;> simp [Datum.quotient, Datum.opposite, OppO, Alike]
  | number s m i => cases e with
    | nan t f => exact True.intro
    | infinity t => cases s <;> cases t <;> simp [Datum.quotient, Datum.opposite, OppO, Alike]
    | number t n j =>
      simp only [Datum.quotient, Datum.opposite]
      by_cases hn : n = 0
      · by_cases hm : m = 0
        · simp [hn, hm, OppO]
        · cases s <;> cases t <;> simp [hn, hm, OppO, Alike, Datum.opposite]
      · simp only [hn, if_false]
        refine .inl ?_
        cases s <;> cases t <;> rfl

theorem rung_word_any (s : Bool) {r : Nat} (h : r < 9223372036854775808) : rung (double.word s r) = r ∧ sgn (double.word s r) = s := by
  have hw : double.signWeight = 9223372036854775808 := by decide
  cases s
  · simp only [Format.word, Bool.false_eq_true, if_false, rung, sgn]
    refine ⟨by omega, ?_⟩
    rw [Nat.div_eq_of_lt (by omega)]; rfl
  · simp only [Format.word, if_true, hw, rung, sgn]
    refine ⟨by omega, ?_⟩
    rw [show (9223372036854775808 + r) / 9223372036854775808 = 1 by omega]; rfl

theorem word_opp (s : Bool) {r : Nat} (h : r < 9223372036854775808) : Eqv (double.word (!s) r) (negW (double.word s r)) := by
  obtain ⟨h1, h2⟩ := rung_word_any s h
  obtain ⟨h3, h4⟩ := rung_word_any (!s) h
  have e : nanF (double.word (!s) r) = nanF (negW (double.word s r)) := by rw [nanF_eq, nanF_eq, negW_rung, h1, h3]
  cases hn : nanF (double.word (!s) r)
  · refine .inr ⟨hn, by rw [← e, hn], ?_⟩
    rw [negW_val]
    unfold val
    rw [h1, h2, h3, h4]
    cases s <;> simp
  · exact .inl ⟨hn, by rw [← e, hn]⟩

theorem write_opp (x : Datum) : Eqv (double.write x.opposite) (negW (double.write x)) := by
  cases x with
  | number s m p =>
    obtain ⟨R, hR, hw, _⟩ := nearest_word s m p
    show Eqv (double.nearest (!s) m p) (negW (double.nearest s m p))
    rw [hw, hw]
    exact word_opp s (by unfold infR at hR; omega)
  | infinity s => exact word_opp s (by decide)
  | nan s f =>
    refine word_opp s ?_
    have h1 : double.infRung = 9218868437227405312 := by decide
    have h2 : double.binade = 4503599627370496 := by decide
    rw [h1, h2]
    omega

theorem gives_opp {o o' : Option Datum} {t t' : Nat} (h : OppO o o') (g : Gives (o.map double.write) t) (g' : Gives (o'.map double.write) t') : Eqv t' (negW t) := by
  cases o with
  | none => cases o' with
    | none =>
      rcases g with g | ⟨_, g⟩
      · cases g
      · rcases g' with g' | ⟨_, g'⟩
        · cases g'
        · exact .inl ⟨g', by rw [negW_nan, g]⟩
    | some e => exact h.elim
  | some d => cases o' with
    | none => exact h.elim
    | some e =>
      rcases g with g | ⟨g, _⟩
      · rcases g' with g' | ⟨g', _⟩
        · cases g; cases g'; exact (write_alike h).trans (write_opp d)
        · cases g'
      · cases g

theorem gives_some (o : Option Nat) : ∃ r, Gives o r := by
  cases o with
  | none => exact ⟨infR + 1, .inr ⟨rfl, by rw [nanF_eq]; decide⟩⟩
  | some r => exact ⟨r, .inl rfl⟩

theorem half_some (a b : Nat) : ∃ m, Half a b m := by
  obtain ⟨t, ht⟩ := gives_some (double.add a b)
  obtain ⟨m, hm⟩ := gives_some (double.div t 4611686018427387904)
  exact ⟨m, t, ht, hm⟩

theorem half_opp {a b m m' : Nat} (g : Half a b m) (g' : Half (negW b) (negW a) m') : Eqv m' (negW m) := by
  obtain ⟨t, g1, g2⟩ := g
  obtain ⟨t', g1', g2'⟩ := g'
  have h1 : Eqv t' (negW t) := by
    refine gives_opp (sum_opp (double.read a) (double.read b)) g1 ?_
    unfold Format.add at g1'
    rwa [read_negW, read_negW] at g1'
  obtain ⟨m3, g3⟩ := gives_some (double.div (negW t) 4611686018427387904)
  refine (div_eqv h1 g2' g3).trans ?_
  refine gives_opp (quotient_opp _ (double.read t) _) g2 ?_
  unfold Format.div at g3
  rwa [read_negW] at g3

/-! ### The sorted negated list -/
theorem ltF_negW {x y : Nat} (hx : nanF x = false) (hy : nanF y = false) : ltF (negW x) (negW y) = ltF y x := by
  rw [ltF_eq, ltF_eq, negW_nan, negW_nan, negW_val, negW_val, hx, hy]
  simp

theorem srt_mem {zs : List Nat} {k : Nat} (hk : k < zs.length) : (srt zs)[k]! ∈ zs := by
  have hk' : k < (srt zs).length := by rw [srt_length]; exact hk
  exact (srt_perm zs).mem_iff.1 (by rw [getElem!_pos (srt zs) k hk']; exact List.getElem_mem hk')

theorem countP_not (l : List Nat) (p : Nat → Bool) : l.countP p + l.countP (fun x => !p x) = l.length := by
  induction l with
  | nil => rfl
  | cons a l ih => simp only [List.countP_cons, List.length_cons]; cases p a <;> simp <;> omega

theorem kth_facts (zs : List Nat) {k : Nat} (hk : k < zs.length) : zs.countP (fun x => ltF x (srt zs)[k]!) ≤ k ∧ k < zs.countP (fun x => !ltF (srt zs)[k]! x) := by
  have h := (kthL_sorted (srt_sorted zs) (k := k) (by rw [srt_length]; exact hk)).perm (srt_perm zs)
  refine ⟨h.1, ?_⟩
  have := h.2
  rwa [low_tie] at this

theorem neg_kth (zs : List Nat) (hnn : ∀ x ∈ zs, nanF x = false) {k : Nat} (hk : k < zs.length) : Eqv (srt (zs.map negW))[k]! (negW (srt zs)[zs.length - 1 - k]!) := by
  have hj : zs.length - 1 - k < zs.length := by omega
  obtain ⟨f1, f2⟩ := kth_facts zs hj
  have hy := hnn _ (srt_mem hj)
  generalize (srt zs)[zs.length - 1 - k]! = y at f1 f2 hy ⊢
  refine Eqv.symm (kthL_eqv (srt_sorted _) (by rw [srt_length]; simpa using hk) (KthL.perm (srt_perm _).symm ?_))
  unfold KthL
  rw [low_tie, List.countP_map, List.countP_map]
  have c1 : zs.countP ((fun x => ltF x (negW y)) ∘ negW) = zs.countP (fun x => ltF y x) := List.countP_congr fun x hx => by
    simp only [Function.comp, ltF_negW (hnn x hx) hy]
  have c2 : zs.countP ((fun x => !ltF (negW y) x) ∘ negW) = zs.countP (fun x => !ltF x y) := List.countP_congr fun x hx => by
    simp only [Function.comp, ltF_negW hy (hnn x hx)]
  rw [c1, c2]
  have n1 := countP_not zs (fun x => ltF y x)
  have n2 := countP_not zs (fun x => ltF x y)
  constructor <;> omega

/-- The plain law of negation and balance. -/
theorem neg_law (zs : List Nat) (hne : zs ≠ []) (hnn : ∀ x ∈ zs, nanF x = false) (hb : ∀ x ∈ zs, dbl (rung x) < infR) {m mn : Nat} (M : MedOf (Sort.sort ltF zs.toArray) m) (MN : MedOf (Sort.sort ltF (zs.map negW).toArray) mn) :
    nanF m = false ∧ Eqv mn (negW m) ∧ zs.countP (fun x => decide (val x < val m)) ≤ zs.length / 2 ∧ zs.countP (fun x => decide (val m < val x)) ≤ zs.length / 2 ∧ (zs.length % 2 = 1 → m ∈ zs) := by
  have hpos : 1 ≤ zs.length := by
    cases zs with
    | nil => exact absurd rfl hne
    | cons a l => simp
  have z1 : (Sort.sort ltF zs.toArray).size = zs.length := by rw [(sort_facts zs.toArray).1]; simp
  have z2 : (Sort.sort ltF (zs.map negW).toArray).size = zs.length := by rw [(sort_facts _).1]; simp
  unfold MedOf at M MN
  rw [z1, srt_get, srt_get] at M
  rw [z2, srt_get, srt_get] at MN
  have low : ∀ {y z : Nat}, nanF y = false → val z ≤ val y → zs.countP (fun x => decide (val x < val z)) ≤ zs.countP (fun x => ltF x y) := fun {y z} hy hz => by
    refine List.countP_mono_left fun x hx h => ?_
    rw [ltF_eq, hy, hnn x hx]
    have : val x < val z := of_decide_eq_true h
    simp; omega
  have high : ∀ {y z : Nat}, nanF y = false → val y ≤ val z → zs.countP (fun x => decide (val z < val x)) ≤ zs.countP (fun x => ltF y x) := fun {y z} hy hz => by
    refine List.countP_mono_left fun x hx h => ?_
    rw [ltF_eq, hy, hnn x hx]
    have : val z < val x := of_decide_eq_true h
    simp; omega
  rcases M with ⟨o, rfl⟩ | ⟨o, M⟩
  · rcases MN with ⟨_, rfl⟩ | ⟨o', _⟩
    · have hk : zs.length / 2 < zs.length := by omega
      have hm := srt_mem hk
      have hn := hnn _ hm
      obtain ⟨f1, f2⟩ := kth_facts zs hk
      have e := neg_kth zs hnn hk
      rw [show zs.length - 1 - zs.length / 2 = zs.length / 2 by omega] at e
      refine ⟨hn, e, Nat.le_trans (low hn (Int.le_refl _)) f1, Nat.le_trans (high hn (Int.le_refl _)) ?_, fun _ => hm⟩
      have := countP_not zs (fun x => ltF (srt zs)[zs.length / 2]! x)
      omega
    · omega
  · rcases MN with ⟨o', _⟩ | ⟨_, MN⟩
    · omega
    · have hk1 : zs.length / 2 - 1 < zs.length := by omega
      have hk2 : zs.length / 2 < zs.length := by omega
      have m1 := srt_mem hk1
      have m2 := srt_mem hk2
      have hab : val (srt zs)[zs.length / 2 - 1]! ≤ val (srt zs)[zs.length / 2]! := by
        have := sorted_le (srt_sorted zs) (i := zs.length / 2 - 1) (j := zs.length / 2) (by omega) (by rw [srt_length]; exact hk2)
        rw [ltF_eq, hnn _ m1, hnn _ m2] at this
        simpa using this
      obtain ⟨b1, b2, b3⟩ := M.between (hb _ m1) (hb _ m2) hab
      have e1 := neg_kth zs hnn hk1
      have e2 := neg_kth zs hnn hk2
      rw [show zs.length - 1 - (zs.length / 2 - 1) = zs.length / 2 by omega] at e1
      rw [show zs.length - 1 - zs.length / 2 = zs.length / 2 - 1 by omega] at e2
      obtain ⟨m3, h3⟩ := half_some (negW (srt zs)[zs.length / 2]!) (negW (srt zs)[zs.length / 2 - 1]!)
      obtain ⟨f1, f2⟩ := kth_facts zs hk1
      obtain ⟨f3, f4⟩ := kth_facts zs hk2
      refine ⟨b1, (half_eqv e1 e2 MN h3).trans (half_opp M h3), ?_, ?_, fun h => by omega⟩
      · exact Nat.le_trans (low (hnn _ m2) b3) f3
      · refine Nat.le_trans (high (hnn _ m1) b2) ?_
        have := countP_not zs (fun x => ltF (srt zs)[zs.length / 2 - 1]! x)
        omega

end Go.Proofs.Qxb6631213a
