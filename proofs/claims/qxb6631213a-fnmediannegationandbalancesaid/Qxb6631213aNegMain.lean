/-
  Seat b6631213a. FnMedianNegationAndBalance (4): the walk.
-/
import Derived.Test.Qxb6631213aNeg
import Derived.Test.Qxb6631213aRotMain
namespace Go.Proofs.Qxb6631213a
open Go.RowKit Go.Sort Go.Proofs

@[go_sem] theorem run_neg_float (P : Program) (w : World) (x : Nat) : (Op.unary .neg (.float .f64 x)).run P w = .ok (.float .f64 (negW x)) w := rfl

/-- The ways that answer at once. -/
theorem neg_out (a : Option Addr) (n c : Nat) (w : World) (h : n = 0 ∨ 131072 < n) :
    Calls Try.prog 4 #[.slice a n c] w fun e w' => e = .returned (.bool true) ∧ RowKit.Below w.heap.size w w' := by
  by_cases h0 : n = 0
  · subst h0
    clear h
    go_enter Try.func4, Try.ntmps4
    go_wp2_with (go_at_call 9; refine (zz9 a 0 c w).mono ?_; rintro e w' ⟨r, rfl, rfl⟩; cases r)
    all_goals
      go_ret
      exact ⟨rfl, Below.refl _ _⟩
  · have h2 : 131072 < n := by omega
    clear h h0
    go_enter Try.func4, Try.ntmps4
    go_wp2_with (go_at_call 9; refine (zz9 a n c w).mono ?_; rintro e w' ⟨r, rfl, rfl⟩; cases r)
    all_goals
      go_ret
      exact ⟨rfl, Below.refl _ _⟩

/-- A word that the first loop lets by. -/
def OkW (x : Nat) : Prop := (FloatKind.f64.format.order x x != some .eq) = false ∧ (FloatKind.f64.format.order x 9199863512903218227 == some .gt) = false ∧ (FloatKind.f64.format.order x 18423235549757994035 == some .lt) = false

/-- The negated words up to i lie in block g2. -/
structure NegAt (w0 wr : World) (g2 n : Nat) (zs : List Nat) (i : Nat) : Prop where
  all : ∀ t, t < n → ∃ v, wr.cell? ⟨g2, t, none⟩ = some v
  free : ∀ t, t < n → wr.frozen? ⟨g2, t, none⟩ = false
  done : ∀ t, t < i → wr.cell? ⟨g2, t, none⟩ = some (.float .f64 (negW (zs[t]?.getD 0)))
  below : RowKit.Below w0.heap.size w0 wr
  lt : w0.heap.size ≤ g2 ∧ g2 < wr.heap.size

theorem NegAt.start {w0 w1 : World} {n : Nat} {xs : List Value} (zs : List Nat) (h : w1.ownsRow w0.heap.size 24 1 (.slice (some ⟨w0.heap.size, 0, none⟩) n n) n xs) (hg : w0.grownBy w1 none) : NegAt w0 w1 w0.heap.size n zs 0 := by
  obtain ⟨h1, h2⟩ := ownsRow_whole h
  refine ⟨fun t ht => ?_, fun t ht => ?_, fun t ht => absurd ht (by omega), Below.grown (Below.refl _ _) hg (Nat.le_refl _) (by intro k hk; cases hk), Nat.le_refl _, (Array.getElem?_eq_some_iff.1 h1).1⟩
  · simp only [World.cell?, h1]
    exact ⟨xs[t]'(by omega), by simp [show t < xs.length by omega]⟩
  · simp [World.frozen?, h1]

theorem NegAt.step {w0 wr : World} {g2 n : Nat} {zs : List Nat} {i X : Nat} (h : NegAt w0 wr g2 n zs i) (hi : i < n) (hX : X = zs[i]?.getD 0) : NegAt w0 (wr.setCell ⟨g2, i, none⟩ (.float .f64 (negW X))) g2 n zs (i + 1) := by
  refine ⟨fun t ht => ?_, fun t ht => ?_, fun t ht => ?_, ?_, h.lt.1, ?_⟩
  · obtain ⟨v, hv⟩ := h.all t ht
    exact cell?_setCell_some hv
  · rw [World.frozen?_setCell]; exact h.free t ht
  · obtain ⟨v, hv⟩ := h.all i hi
    rcases Nat.lt_or_eq_of_le (Nat.le_of_lt_succ ht) with h1 | h1
    · have hne : (⟨g2, i, none⟩ : Addr) ≠ ⟨g2, t, none⟩ := by intro e; injection e; omega
      exact (World.cell?_setCell_other wr _ _ _ hne).trans (h.done t h1)
    · subst h1
      rw [← hX]
      exact World.cell?_setCell_same wr _ _ hv
  · exact h.below.setCell (p := ⟨g2, i, none⟩) h.lt.1 _
  · have := h.lt.2
    simpa using this

theorem NegAt.drew {w0 wr : World} {g2 n : Nat} {zs : List Nat} {i : Nat} (h : NegAt w0 wr g2 n zs i) : NegAt w0 wr.drew g2 n zs i :=
  ⟨h.all, h.free, h.done, h.below.trans ⟨rfl, rfl, rfl, Nat.le_refl _, fun _ _ => rfl⟩, h.lt⟩

theorem NegAt.lies {w0 wr : World} {g2 n : Nat} {zs : List Nat} (h : NegAt w0 wr g2 n zs n) (hn : zs.length = n) : Lies wr g2 0 (zs.map negW) := by
  refine ⟨h.lt.2, fun t ht => ?_⟩
  have ht' : t < zs.length := by simpa using ht
  rw [Nat.zero_add, h.done t (by omega)]
  simp [ht']

theorem okW_facts {x : Nat} (h : OkW x) : nanF x = false ∧ dbl (rung x) < infR := by
  obtain ⟨h1, h2, h3⟩ := h
  have hn : nanF x = false := h1
  have c1 : nanF 9199863512903218227 = false := by rw [nanF_eq]; decide
  have c2 : nanF 18423235549757994035 = false := by rw [nanF_eq]; decide
  have v1 : val 9199863512903218227 = (rungVal 9199863512903218227 : Int) := by
    have e1 : sgn 9199863512903218227 = false := by decide
    have e2 : rung 9199863512903218227 = 9199863512903218227 := by decide
    unfold val; rw [e1, e2]; rfl
  have v2 : val 18423235549757994035 = -(rungVal 9199863512903218227 : Int) := by
    have e1 : sgn 18423235549757994035 = true := by decide
    have e2 : rung 18423235549757994035 = 9199863512903218227 := by decide
    unfold val; rw [e1, e2]; rfl
  rw [gtr_eq, hn, c1, v1] at h2
  rw [lss_eq, hn, c2, v2] at h3
  simp only [Bool.not_false, Bool.true_and, decide_eq_false_iff_not, Int.not_lt] at h2 h3
  refine ⟨hn, ?_⟩
  have h4 : rungVal (rung x) ≤ rungVal 9199863512903218227 := by have := abs_val x; omega
  have h5 := rungVal_le.1 h4
  unfold dbl infR
  split <;> omega

/-- Has one of the places below j p? -/
def anyb (p : Nat → Bool) : Nat → Bool
  | 0 => false
  | j + 1 => anyb p j || p j

theorem anyb_of (p : Nat → Bool) : ∀ (j : Nat) {t : Nat}, t < j → p t = true → anyb p j = true
  | 0, _, h, _ => absurd h (by omega)
  | j + 1, t, h, hp => by
    rw [anyb]
    rcases Nat.lt_or_eq_of_le (Nat.le_of_lt_succ h) with h1 | rfl
    · rw [anyb_of p j h1 hp]; rfl
    · rw [hp]; simp

def pB (zs : List Nat) (m t : Nat) : Bool := FloatKind.f64.format.order (zs[t]?.getD 0) m == some .lt
def pA (zs : List Nat) (m t : Nat) : Bool := FloatKind.f64.format.order (zs[t]?.getD 0) m == some .gt
def pE (zs : List Nat) (m t : Nat) : Bool := FloatKind.f64.format.order (zs[t]?.getD 0) m == some .eq

theorem cntB_eq (zs : List Nat) (hnn : ∀ x ∈ zs, nanF x = false) {m : Nat} (hm : nanF m = false) : cnt (pB zs m) zs.length = zs.countP (fun x => decide (val x < val m)) := by
  have := cnt_countP zs (fun x => FloatKind.f64.format.order x m == some .lt) zs.length (Nat.le_refl _)
  rw [List.take_length] at this
  refine this.trans (List.countP_congr fun x hx => ?_)
  rw [lss_eq, hnn x hx, hm]
  simp
theorem cntA_eq (zs : List Nat) (hnn : ∀ x ∈ zs, nanF x = false) {m : Nat} (hm : nanF m = false) : cnt (pA zs m) zs.length = zs.countP (fun x => decide (val m < val x)) := by
  have := cnt_countP zs (fun x => FloatKind.f64.format.order x m == some .gt) zs.length (Nat.le_refl _)
  rw [List.take_length] at this
  refine this.trans (List.countP_congr fun x hx => ?_)
  rw [gtr_eq, hnn x hx, hm]
  simp
theorem anyE_eq (zs : List Nat) {m : Nat} (hm : nanF m = false) (h : m ∈ zs) : anyb (pE zs m) zs.length = true := by
  obtain ⟨t, ht, e⟩ := List.getElem_of_mem h
  refine anyb_of _ _ ht ?_
  unfold pE
  rw [List.getElem?_eq_getElem ht, Option.getD_some, e, eql_eq, hm]
  simp

set_option maxRecDepth 100000 in
set_option maxHeartbeats 3200000 in
theorem neg_main (x : Addr) (n cap : Nat) (zs : List Nat) (w : World) (r0 : Row w x n zs) (h1 : 1 ≤ n) (h2 : n ≤ 131072) :
    Calls Try.prog 4 #[.slice (some x) n cap] w fun e w' => e = .returned (.bool true) ∧ RowKit.Below w.heap.size w w' := by
  have R0 := Lib.hid r0
  clear r0
  have hb0 : ((n : Int) == 0) = false := by simp; omega
  have hq0 := fun (w : World) => run_neq_slice_nil_any (P := Try.prog) w 22 24 (some x) n cap 0 0 Try.underlying22
  obtain ⟨i0, hi, hz0, hz1, hz2⟩ := info_parts info24
  go_enter Try.func4, Try.ntmps4
  go_wp2_with (go_at_call 9; refine (zz9 (some x) n cap w).mono ?_; rintro e w' ⟨r, rfl, rfl⟩; refine Hid.out ?_)
  refine Lib.hid ?_
  cases r
  · go_wp2
    go_ret
    exact ⟨rfl, Below.refl _ _⟩
  have B0 : Hid (RowKit.Below w.heap.size w w) := Below.refl _ _
  go_wp2_with (first
    | (at_make; refine wpList_make_full _ rfl _ _ 22 rfl w.heap.size 24 i0 (.float .f64 0) 1 Try.underlying22 hi hz0 hz1 .i64 .i64 (n : Int) (n : Int) n rfl rfl rfl rfl (by rw [hz2]; omega) (by unfold maxLen; omega) (Nat.le_refl _) ?_; intro wa hown hga)
    | (refine wpList_copy_splice rfl _ _ 22 22 rfl 24 Try.underlying22 size24 _ _ n n n cap rfl rfl w.heap.size 0 _ 24 (ownsRow_whole hown).1 (cf zs) (by simp [cf_length, R0.out.1]) (fun _ => ⟨rfl, x, rfl, R0.out.cells (Below.grown (Below.refl _ _) hga (Nat.le_refl _) (by intro k hk; cases hk))⟩) (by rw [(ownsRow_whole hown).2]; simp [cf_length, R0.out.1]) (cf_one zs) w.heap.size w (Below.grown (Below.refl _ _) hga (Nat.le_refl _) (by intro k hk; cases hk)) (Nat.le_refl _) ?_; intro w11 hh hb; refine Hid.out ?_))
  refine Lib.hid ?_
  have hL := made_lies (by rw [(ownsRow_whole hown).2, R0.out.1]) hh.out
  have HB : Hid (RowKit.Below w.heap.size w w11) := hb
  have HL : Hid (Lies w11 w.heap.size 0 zs) := hL
  have HN : Hid (zs.length = n) := R0.out.1
  clear hh hown hga hb hL R0 hq0
  obtain ⟨g, hg⟩ : ∃ g, g = w.heap.size := ⟨_, rfl⟩
  rw [← hg] at HL ⊢
  clear hg
  go_wp2
  go_loopw [4] (fun vi wr => ∃ i : Nat, vi = .int .i64 i ∧ i ≤ n ∧ w11 = wr ∧ Hid (∀ t, t < i → OkW (zs[t]?.getD 0))) (fun vi _ => n - (intOf vi).toNat)
  case atStart => exact ⟨0, rfl, Nat.zero_le _, rfl, fun t h => absurd h (by omega)⟩
  case round =>
    obtain ⟨i, rfl, hin, hwr, HI⟩ := hrel
    subst hwr
    by_cases hlt : i < n
    · obtain ⟨X, hX⟩ : ∃ X, X = zs[i]?.getD 0 := ⟨_, rfl⟩
      have hcx : w11.cell? ⟨g, i, none⟩ = some (.float .f64 X) := by
        have := HL.out.2 i (by rw [HN.out]; exact hlt)
        rw [Nat.zero_add] at this
        rw [hX]; exact this
      have HX := Lib.hid hX
      clear hX
      cases e1 : (FloatKind.f64.format.order X X != some .eq) with
      | true =>
        go_wp2
        go_ret
        exact ⟨rfl, HB.out⟩
      | false =>
        cases e2 : (FloatKind.f64.format.order X 9199863512903218227 == some .gt) with
        | true =>
          go_wp2
          go_ret
          exact ⟨rfl, HB.out⟩
        | false =>
          cases e3 : (FloatKind.f64.format.order X 18423235549757994035 == some .lt) with
          | true =>
            go_wp2
            go_ret
            exact ⟨rfl, HB.out⟩
          | false =>
            go_wp2
            go_roundw
            case rel => exact ⟨i + 1, by simp, by omega, by first | rfl | trivial, fun t ht => by
              rcases Nat.lt_or_eq_of_le (Nat.le_of_lt_succ ht) with h | rfl
              · exact HI.out t h
              · rw [← HX.out]; exact ⟨e1, e2, e3⟩⟩
            case measure => simp [intOf]; omega
    · have hni : n = i := by omega
      subst hni
      clear hin hlt
      go_wp2_with (first
        | (at_make; refine wpList_make_full _ rfl _ _ 22 rfl w11.heap.size 24 i0 (.float .f64 0) 1 Try.underlying22 hi hz0 hz1 .i64 .i64 (n : Int) (n : Int) n rfl rfl rfl rfl (by rw [hz2]; omega) (by unfold maxLen; omega) (Nat.le_refl _) ?_; intro w12 hown hga))
      have HS : Hid (NegAt w11 w12 w11.heap.size n zs 0) := NegAt.start zs hown hga
      clear hown hga
      obtain ⟨g2, hg2⟩ : ∃ g2, g2 = w11.heap.size := ⟨_, rfl⟩
      rw [← hg2] at HS ⊢
      clear hg2 hi hz0 hz1 hz2
      go_loopw [8] (fun vi w2 => ∃ j : Nat, vi = .int .i64 j ∧ j ≤ n ∧ Hid (NegAt w11 w2 g2 n zs j)) (fun vi _ => n - (intOf vi).toNat)
      case atStart => exact ⟨0, rfl, Nat.zero_le _, HS.out⟩
      case round =>
        clear HS
        obtain ⟨j, rfl, hjn, HJ⟩ := hrel
        by_cases hlt : j < n
        · obtain ⟨X, hX⟩ : ∃ X, X = zs[j]?.getD 0 := ⟨_, rfl⟩
          have hcx : wr.cell? ⟨g, j, none⟩ = some (.float .f64 X) := by
            have := (HL.out.below HJ.out.below).2 j (by rw [HN.out]; exact hlt)
            rw [Nat.zero_add] at this
            rw [hX]; exact this
          have HX := Lib.hid hX
          clear hX
          obtain ⟨v0, hv0⟩ := HJ.out.all j hlt
          have hf0 := HJ.out.free j hlt
          go_wp2
          go_roundw
          case rel => exact ⟨j + 1, by simp, by omega, HJ.out.step hlt HX.out⟩
          case measure => simp [intOf]; omega
        · have hnj : n = j := by omega
          subst hnj
          clear hjn hlt
          obtain ⟨W2, hW2⟩ : ∃ W2, W2 = wr := ⟨_, rfl⟩
          rw [← hW2] at HJ ⊢
          clear hW2
          have HV : Hid (Lies W2 g 0 zs) := HL.out.below HJ.out.below
          have HG : Hid (Lies W2 g2 0 (zs.map negW)) := HJ.out.lies HN.out
          have B2 : Hid (RowKit.Below w.heap.size w W2) := HB.out.trans (HJ.out.below.mono HB.out.size)
          have hzn : Hid (zs ≠ []) := fun e => by have := HN.out; rw [e] at this; simp at this; omega
          have hn20 : Hid (n ≤ 1048576) := by show _ ≤ _; omega
          have HO : Hid (∀ x ∈ zs, nanF x = false ∧ dbl (rung x) < infR) := fun x hx => by
            obtain ⟨t, ht, e⟩ := List.getElem_of_mem hx
            have := HI.out t (by rw [← HN.out]; exact ht)
            rw [List.getElem?_eq_getElem ht, Option.getD_some, e] at this
            exact okW_facts this
          clear HL HB HJ HI
          go_wp2_with (go_at_call 7; refine (med_at g n n zs HN.out hzn.out hn20.out _ HV.out).mono ?_; rintro e W3 ⟨m, rfl, hm, b3⟩; refine Hid.out ?_)
          refine Lib.hid ?_
          have M1 : Hid (MedOf (Sort.sort ltF zs.toArray) m) := hm
          have B3 : Hid (RowKit.Below W2.heap.size W2 W3) := b3
          clear hm b3
          go_wp2_with (go_at_call 7; refine (med_at g2 n n (zs.map negW) (by simp [HN.out]) (by simpa using hzn.out) hn20.out _ (HG.out.below B3.out)).mono ?_; rintro e W4 ⟨mn, rfl, hmn, b4⟩; refine Hid.out ?_)
          refine Lib.hid ?_
          have B4 : Hid (RowKit.Below W2.heap.size W2 W4) := B3.out.trans (b4.mono B3.out.size)
          have BW : Hid (RowKit.Below w.heap.size w W4) := B2.out.trans (B4.out.mono B2.out.size)
          have HV4 : Hid (Lies W4 g 0 zs) := HV.out.below B4.out
          obtain ⟨q1, q2, q3, q4, q5⟩ := neg_law zs hzn.out (fun x hx => (HO.out x hx).1) (fun x hx => (HO.out x hx).2) M1.out hmn
          have hneq : (FloatKind.f64.format.order mn (negW m) != some .eq) = false := by
            have e := eql_eq mn (negW m)
            rcases q2 with ⟨_, a2⟩ | ⟨a1, a2, a3⟩
            · rw [negW_nan, q1] at a2; cases a2
            · rw [a1, a2, a3] at e
              simp only [bne, e]; simp
          rw [← cntB_eq zs (fun x hx => (HO.out x hx).1) q1, HN.out] at q3
          rw [← cntA_eq zs (fun x hx => (HO.out x hx).1) q1, HN.out] at q4
          have QB : Hid (cnt (pB zs m) n ≤ n / 2) := q3
          have QA : Hid (cnt (pA zs m) n ≤ n / 2) := q4
          have QE : Hid (n % 2 = 1 → anyb (pE zs m) n = true) := fun h => by
            have := anyE_eq zs q1 (q5 (by rw [HN.out]; exact h))
            rwa [HN.out] at this
          clear q1 q2 q3 q4 q5 hmn b4 B3 B4 B2 HV HG HO M1
          go_wp2
          go_loopw [11, 12, 13, 14] (fun v11 v12 v13 v14 w5 => ∃ j : Nat, v14 = .int .i64 j ∧ j ≤ n ∧ v11 = .int .i64 (cnt (pB zs m) j) ∧ v12 = .int .i64 (cnt (pA zs m) j) ∧ v13 = .bool (anyb (pE zs m) j) ∧ W4 = w5) (fun _ _ _ v14 _ => n - (intOf v14).toNat)
          case atStart => exact ⟨0, rfl, Nat.zero_le _, rfl, rfl, rfl, rfl⟩
          case round =>
            obtain ⟨j, rfl, hjn, rfl, rfl, rfl, hw5⟩ := hrel
            subst hw5
            obtain ⟨lo, hlo⟩ : ∃ lo, lo = cnt (pB zs m) j := ⟨_, rfl⟩
            obtain ⟨up, hup⟩ : ∃ up, up = cnt (pA zs m) j := ⟨_, rfl⟩
            obtain ⟨mb, hmb⟩ : ∃ mb, mb = anyb (pE zs m) j := ⟨_, rfl⟩
            have l1 : lo ≤ j := by rw [hlo]; exact cnt_le _ _
            have l2 : up ≤ j := by rw [hup]; exact cnt_le _ _
            rw [← hlo, ← hup, ← hmb]
            have HC : Hid (lo = cnt (pB zs m) j ∧ up = cnt (pA zs m) j ∧ mb = anyb (pE zs m) j) := ⟨hlo, hup, hmb⟩
            clear hlo hup hmb
            by_cases hlt : j < n
            · obtain ⟨X, hX⟩ : ∃ X, X = zs[j]?.getD 0 := ⟨_, rfl⟩
              have hcx : W4.cell? ⟨g, j, none⟩ = some (.float .f64 X) := by
                have := HV4.out.2 j (by rw [HN.out]; exact hlt)
                rw [Nat.zero_add] at this
                rw [hX]; exact this
              have HX := Lib.hid hX
              clear hX
              have HE : Hid (pB zs m j = (FloatKind.f64.format.order X m == some .lt) ∧ pA zs m j = (FloatKind.f64.format.order X m == some .gt) ∧ pE zs m j = (FloatKind.f64.format.order X m == some .eq)) := by
                show _ ∧ _ ∧ _
                rw [HX.out]; exact ⟨rfl, rfl, rfl⟩
              clear HX
              cases e1 : (FloatKind.f64.format.order X m == some .lt) <;> cases e2 : (FloatKind.f64.format.order X m == some .gt) <;> cases e3 : (FloatKind.f64.format.order X m == some .eq)
              all_goals
                go_wp2
                go_roundw
                case rel =>
                  exact ⟨j + 1, by simp, by omega, by rw [cnt, HE.out.1, e1, ← HC.out.1]; simp, by rw [cnt, HE.out.2.1, e2, ← HC.out.2.1]; simp, by rw [anyb, HE.out.2.2, e3, ← HC.out.2.2]; simp, by first | rfl | trivial⟩
                case measure => simp [intOf]; omega
            · have hnj : n = j := by omega
              subst hnj
              have b1 : lo ≤ n / 2 := by rw [HC.out.1]; exact QB.out
              have b2 : up ≤ n / 2 := by rw [HC.out.2.1]; exact QA.out
              rcases Nat.mod_two_eq_zero_or_one n with hp | hp
              · have hp2 : ((n : Int) % 2 == 1) = false := by simp; omega
                go_wp2
                go_ret
                exact ⟨rfl, BW.out⟩
              · have hp2 : ((n : Int) % 2 == 1) = true := by simp; omega
                have hmt : mb = true := by rw [HC.out.2.2]; exact QE.out hp
                subst hmt
                go_wp2
                go_ret
                exact ⟨rfl, BW.out⟩

end Go.Proofs.Qxb6631213a
