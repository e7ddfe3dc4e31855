/-
  Seat b6631213a. FnMedianRotationOrderStatistic (3): the main way.
-/
import Derived.Test.Qxb6631213aRot
namespace Go.Proofs.Qxb6631213a
open Go.RowKit Go.Sort Go.Proofs

theorem lies_drop {w : World} {g : Nat} {zs : List Nat} (h : Lies w g 0 zs) (c : Nat) : ∀ j u, (cf (zs.drop c))[j]? = some u → w.cell? (Addr.add ⟨g, c, none⟩ j) = some u := by
  intro j u hj
  have hj1 : j < (zs.drop c).length := by have := (List.getElem?_eq_some_iff.1 hj).1; simpa [cf] using this
  rw [cf_get _ _ hj1] at hj
  cases hj
  have hj2 : c + j < zs.length := by simp at hj1; omega
  have := h.2 (c + j) hj2
  rw [Nat.zero_add] at this
  rw [Addr.add_lit, this, List.getElem?_drop]

theorem lies_take {w : World} {g : Nat} {zs : List Nat} (h : Lies w g 0 zs) (c : Nat) : ∀ j u, (cf (zs.take c))[j]? = some u → w.cell? (Addr.add ⟨g, 0, none⟩ j) = some u := by
  intro j u hj
  have hj1 : j < (zs.take c).length := by have := (List.getElem?_eq_some_iff.1 hj).1; simpa [cf] using this
  rw [cf_get _ _ hj1] at hj
  cases hj
  have hj2 : j < c ∧ j < zs.length := by simp at hj1; omega
  have := h.2 j hj2.2
  rw [Addr.add_lit, this, List.getElem?_take_of_lt hj2.1]

theorem below_drewN (B q : Nat) (w : World) : RowKit.Below B w (w.drewN q) := ⟨rfl, rfl, rfl, Nat.le_refl _, fun _ _ => rfl⟩

/-- zzKth(values, k), k written as the walk writes it. -/
theorem kth_at (g n k : Nat) (K : Int) (hK : K = (k : Int)) (zs : List Nat) (hN : zs.length = n) (hn : n ≤ 1048576) (hk : k < n) (w : World) (hL : Lies w g 0 zs) :
    Calls Try.prog 6 #[.slice (some ⟨g, 0, none⟩) n n, .int .i64 K] w fun e w' => ∃ r, e = .returned (.float .f64 r) ∧ Cond (fun t => zs[t]?.getD 0) zs.length k r ∧ RowKit.Below w.heap.size w w' := by
  subst hK
  subst hN
  refine (zzKth_go g 0 zs.length zs.length k (fun t => zs[t]?.getD 0) w hL.2 hn hk (kth_exists zs hk)).mono ?_
  rintro e w' ⟨r, h1, ⟨i, _, _, h4⟩, q, rfl⟩
  exact ⟨r, h1, h4, below_drewN _ _ _⟩

theorem med_at (g n cap : Nat) (zs : List Nat) (hN : zs.length = n) (hz : zs ≠ []) (hn : n ≤ 1048576) (w : World) (hL : Lies w g 0 zs) :
    Calls Try.prog 7 #[.slice (some ⟨g, 0, none⟩) n cap] w fun e W' => ∃ m, e = .returned (.float .f64 m) ∧ MedOf (Sort.sort ltF zs.toArray) m ∧ RowKit.Below w.heap.size w W' := by
  subst hN
  exact zzmedian_go g 0 cap zs hz hn w hL.1 hL.2

set_option maxRecDepth 100000 in
set_option maxHeartbeats 3200000 in
theorem rot_main (x : Addr) (n cap c : Nat) (zs : List Nat) (w : World) (r0 : Row w x n zs) (h1 : 1 ≤ n) (h2 : n ≤ 4096) (hcn : c < n) :
    Calls Try.prog 3 #[.slice (some x) n cap, .int .i64 (c : Int)] w fun e w' => e = .returned (.bool true) ∧ RowKit.Below w.heap.size w w' := by
  have R0 := Lib.hid r0
  clear r0
  have hb0 : ((n : Int) == 0) = false := by simp; omega
  have hq0 := fun (w : World) => run_neq_slice_nil_any (P := Try.prog) w 22 24 (some x) n cap 0 0 Try.underlying22
  obtain ⟨i0, hi, hz0, hz1, hz2⟩ := info_parts info24
  go_enter Try.func3, Try.ntmps3
  go_wp2_with (go_at_call 5; refine (zz5 (some x) n cap c w).mono ?_; rintro e w' ⟨r, rfl, rfl⟩; refine Hid.out ?_)
  refine Lib.hid ?_
  cases r
  · go_wp2
    go_ret
    exact ⟨rfl, Below.refl _ _⟩
  have B0 : Hid (RowKit.Below w.heap.size w w) := Below.refl _ _
  go_wp2_with (first
    | (at_make; refine wpList_make_full _ rfl _ _ 22 rfl w.heap.size 24 i0 (.float .f64 0) 1 Try.underlying22 hi hz0 hz1 .i64 .i64 (n : Int) (n : Int) n rfl rfl rfl rfl (by rw [hz2]; omega) (by unfold maxLen; omega) (Nat.le_refl _) ?_; intro wa hown hga)
    | (refine wpList_copy_splice rfl _ _ 22 22 rfl 24 Try.underlying22 size24 _ _ n n n cap rfl rfl w.heap.size 0 _ 24 (ownsRow_whole hown).1 (cf zs) (by simp [cf_length, R0.out.1]) (fun _ => ⟨rfl, x, rfl, R0.out.cells (Below.grown (Below.refl _ _) hga (Nat.le_refl _) (by intro k hk; cases hk))⟩) (by rw [(ownsRow_whole hown).2]; simp [cf_length, R0.out.1]) (cf_one zs) w.heap.size w (Below.grown (Below.refl _ _) hga (Nat.le_refl _) (by intro k hk; cases hk)) (Nat.le_refl _) ?_; intro w11 hh hb; refine Hid.out ?_))
  refine Lib.hid ?_
  have hL := made_lies (by rw [(ownsRow_whole hown).2, R0.out.1]) hh.out
  have HB : Hid (RowKit.Below w.heap.size w w11) := hb
  have HL : Hid (Lies w11 w.heap.size 0 zs) := hL
  have HN : Hid (zs.length = n) := R0.out.1
  clear hh hown hga hb hL R0 hq0
  obtain ⟨g, hg⟩ : ∃ g, g = w.heap.size := ⟨_, rfl⟩
  rw [← hg] at HL ⊢
  clear hg
  go_wp2_with (first
    | (at_make; refine wpList_make_own _ rfl _ _ 22 rfl w11.heap.size 24 i0 (.float .f64 0) 1 Try.underlying22 hi hz0 hz1 .i64 .i64 (n : Int) n rfl rfl rfl (by rw [hz2]; omega) (by unfold maxLen; omega) (Nat.le_refl _) ?_; intro w12 hown hg12
       have B12 : Hid (RowKit.Below w11.heap.size w11 w12) := Below.grown (Below.refl _ _) hg12 (Nat.le_refl _) (by intro k hk; cases hk)
       clear hg12
       refine Hid.out ?_))
  refine Lib.hid ?_
  go_wp2_with (first
    | (at_builtin; refine wpList_append_own _ rfl _ _ 22 rfl w11.heap.size 24 i0 (.float .f64 0) 1 8 Try.underlying22 hi hz0 hz1 hz2 rfl (by decide) _ 0 [] rfl hown ⟨g, c, none⟩ (n - c) (n - c) (cf (zs.drop c)) rfl (by simp [cf_length, HN.out]) (lies_drop (HL.out.below B12.out) c) (cf_one _) (by unfold maxLen; omega) (by omega) B12.out.size ?_; intro v1 w13 hown1 hg13 hnil1; refine Hid.out ?_))
  refine Lib.hid ?_
  have B13 : Hid (RowKit.Below w11.heap.size w11 w13) := Below.grown B12.out hg13 B12.out.size (fun k hk => (hown.lt k hk).1)
  clear hg13 hnil1 hown
  go_wp2_with (first
    | (at_builtin; refine wpList_append_own _ rfl _ _ 22 rfl w11.heap.size 24 i0 (.float .f64 0) 1 8 Try.underlying22 hi hz0 hz1 hz2 rfl (by decide) _ (0 + (n - c)) ([] ++ cf (zs.drop c)) rfl hown1 ⟨g, 0, none⟩ c n (cf (zs.take c)) rfl (by simp [cf_length, HN.out]; omega) (lies_take (HL.out.below B13.out) c) (cf_one _) (by unfold maxLen; omega) (by omega) B13.out.size ?_; intro v2 w14 hown2 hg14 hnil2; refine Hid.out ?_))
  refine Lib.hid ?_
  have B14 : Hid (RowKit.Below w11.heap.size w11 w14) := Below.grown B13.out hg14 B13.out.size (fun k hk => (hown1.lt k hk).1)
  clear hg14 hnil2 hown1
  obtain ⟨ys, hys⟩ : ∃ ys, ys = zs.drop c ++ zs.take c := ⟨_, rfl⟩
  have HP : Hid (ys.Perm zs) := by
    rw [hys]
    exact List.perm_append_comm.trans (by rw [List.take_append_drop])
  have hyl : ys.length = n := by rw [HP.out.length_eq, HN.out]
  have hyn : ys ≠ [] := fun e => by rw [e] at hyl; simp at hyl; omega
  have e2 : ([] ++ cf (zs.drop c)) ++ cf (zs.take c) = cf ys := by rw [hys]; simp [cf]
  rw [e2, show 0 + (n - c) + c = n by omega] at hown2
  obtain ⟨g2, cap2, rfl, hL2, hg2⟩ := owned_lies hyl hyn hown2
  have HY : Hid (Lies w14 g2 0 ys ∧ ys.length = n ∧ ys ≠ []) := ⟨hL2, hyl, hyn⟩
  have HL14 : Hid (Lies w14 g 0 zs) := HL.out.below B14.out
  have BW : Hid (RowKit.Below w.heap.size w w14) := HB.out.trans (B14.out.mono HB.out.size)
  have hzn : Hid (zs ≠ []) := fun e => by have := HN.out; rw [e] at this; simp at this; omega
  clear hys e2 hown2 hL2 hg2 hyl hyn HL B14 B13 B12 HB hi hz0 hz1 hz2
  have hn20 : Hid (n ≤ 1048576) := by show _ ≤ _; omega
  rcases Nat.mod_two_eq_zero_or_one n with hp | hp
  · have hp2 : ((n : Int) % 2 == 1) = false := by simp; omega
    have HE : Hid (n % 2 = 0) := hp
    have hn2 : 2 ≤ n := by omega
    clear hp
    go_wp2_with (go_at_call 6; refine (kth_at g n (n / 2 - 1) _ (by omega) zs HN.out hn20.out (by omega) _ HL14.out).mono ?_; rintro e w15 ⟨r1, rfl, hr1, b15⟩; refine Hid.out ?_)
    refine Lib.hid ?_
    have K1 : Hid (Cond (fun t => zs[t]?.getD 0) zs.length (n / 2 - 1) r1) := hr1
    have B15 : Hid (RowKit.Below w14.heap.size w14 w15) := b15
    clear hr1 b15
    go_wp2_with (go_at_call 6; refine (kth_at g n (n / 2) _ (by omega) zs HN.out hn20.out (by omega) _ (HL14.out.below B15.out)).mono ?_; rintro e w16 ⟨r2, rfl, hr2, b16⟩; refine Hid.out ?_)
    refine Lib.hid ?_
    have K2 : Hid (Cond (fun t => zs[t]?.getD 0) zs.length (n / 2) r2) := hr2
    have B16 : Hid (RowKit.Below w14.heap.size w14 w16) := B15.out.trans (b16.mono B15.out.size)
    clear hr2 b16 B15
    have SZ : Hid (∀ vs : List Nat, vs.Perm zs → (Sort.sort ltF vs.toArray).size = n) := fun vs hv => by
      rw [(sort_facts vs.toArray).1]; simp; rw [hv.length_eq, HN.out]
    go_wp2_with (go_at_call 7; refine (med_at g n n zs HN.out hzn.out hn20.out _ (HL14.out.below ((B16.out.trans (orDrew_below _ _ _)).trans (orDrew_below _ _ _)))).mono ?_; rintro e w18 ⟨m1, rfl, hm1, b18⟩; refine Hid.out ?_)
    refine Lib.hid ?_
    have BB : Hid (RowKit.Below w14.heap.size w14 (orDrew (Ieee.double.div (orNan (Ieee.double.add r1 r2) r1 r2 w16) 4611686018427387904) (orDrew (Ieee.double.add r1 r2) w16))) := (B16.out.trans (orDrew_below _ _ _)).trans (orDrew_below _ _ _)
    have WT : Half r1 r2 (orNan (Ieee.double.div (orNan (Ieee.double.add r1 r2) r1 r2 w16) 4611686018427387904) (orNan (Ieee.double.add r1 r2) r1 r2 w16) 4611686018427387904 (orDrew (Ieee.double.add r1 r2) w16)) := ⟨_, orNan_gives _ _ _ _, orNan_gives _ _ _ _⟩
    generalize orNan (Ieee.double.div (orNan (Ieee.double.add r1 r2) r1 r2 w16) 4611686018427387904) (orNan (Ieee.double.add r1 r2) r1 r2 w16) 4611686018427387904 (orDrew (Ieee.double.add r1 r2) w16) = wt at WT ⊢
    have SAME : ∀ (m : Nat) (vs : List Nat), vs.Perm zs → MedOf (Sort.sort ltF vs.toArray) m → Eqv m wt := fun m vs hv hm => by
      unfold MedOf at hm
      rw [SZ.out vs hv] at hm
      rcases hm with ⟨h, _⟩ | ⟨_, h⟩
      · have := HE.out; omega
      · exact half_eqv (kth_eqv zs vs hv (by rw [HN.out]; omega) K1.out).symm (kth_eqv zs vs hv (by rw [HN.out]; omega) K2.out).symm h WT
    clear WT
    have B18 : Hid (RowKit.Below w14.heap.size w14 w18) := BB.out.trans (b18.mono BB.out.size)
    have M1 : Hid (MedOf (Sort.sort ltF zs.toArray) m1) := hm1
    clear b18 hm1
    go_wp2_with (go_at_call 7; refine (med_at g2 n cap2 ys HY.out.2.1 HY.out.2.2 hn20.out _ (HY.out.1.below B18.out)).mono ?_; rintro e w19 ⟨m2, rfl, hm2, b19⟩; refine Hid.out ?_)
    refine Lib.hid ?_
    have B19 : Hid (RowKit.Below w14.heap.size w14 w19) := B18.out.trans (b19.mono B18.out.size)
    have M2 : Hid (MedOf (Sort.sort ltF ys.toArray) m2) := hm2
    clear b19 hm2
    have hs1 : sameF m1 wt = true := sameF_of_eqv (SAME m1 zs (List.Perm.refl _) M1.out)
    have hs2 : sameF m2 wt = true := sameF_of_eqv (SAME m2 ys HP.out M2.out)
    clear SAME
    go_wp2_with (go_at_call 8; refine (zzSame_go _ _ _).mono ?_; rintro e w' ⟨rfl, rfl⟩)
    go_ret
    exact ⟨rfl, BW.out.trans (B19.out.mono BW.out.size)⟩
  · have hp2 : ((n : Int) % 2 == 1) = true := by simp; omega
    have HE : Hid (n % 2 = 1) := hp
    clear hp
    go_wp2_with (go_at_call 6; refine (kth_at g n (n / 2) _ (by omega) zs HN.out hn20.out (by omega) _ HL14.out).mono ?_; rintro e w16 ⟨wt, rfl, hr2, b16⟩; refine Hid.out ?_)
    refine Lib.hid ?_
    have K2 : Hid (Cond (fun t => zs[t]?.getD 0) zs.length (n / 2) wt) := hr2
    have BB : Hid (RowKit.Below w14.heap.size w14 w16) := b16
    clear hr2 b16
    have SZ : Hid (∀ vs : List Nat, vs.Perm zs → (Sort.sort ltF vs.toArray).size = n) := fun vs hv => by
      rw [(sort_facts vs.toArray).1]; simp; rw [hv.length_eq, HN.out]
    go_wp2_with (go_at_call 7; refine (med_at g n n zs HN.out hzn.out hn20.out _ (HL14.out.below BB.out)).mono ?_; rintro e w18 ⟨m1, rfl, hm1, b18⟩; refine Hid.out ?_)
    refine Lib.hid ?_
    have SAME : ∀ (m : Nat) (vs : List Nat), vs.Perm zs → MedOf (Sort.sort ltF vs.toArray) m → Eqv m wt := fun m vs hv hm => by
      unfold MedOf at hm
      rw [SZ.out vs hv] at hm
      rcases hm with ⟨_, rfl⟩ | ⟨h, _⟩
      · exact (kth_eqv zs vs hv (by rw [HN.out]; omega) K2.out).symm
      · have := HE.out; omega
    have B18 : Hid (RowKit.Below w14.heap.size w14 w18) := BB.out.trans (b18.mono BB.out.size)
    have M1 : Hid (MedOf (Sort.sort ltF zs.toArray) m1) := hm1
    clear b18 hm1
    go_wp2_with (go_at_call 7; refine (med_at g2 n cap2 ys HY.out.2.1 HY.out.2.2 hn20.out _ (HY.out.1.below B18.out)).mono ?_; rintro e w19 ⟨m2, rfl, hm2, b19⟩; refine Hid.out ?_)
    refine Lib.hid ?_
    have B19 : Hid (RowKit.Below w14.heap.size w14 w19) := B18.out.trans (b19.mono B18.out.size)
    have M2 : Hid (MedOf (Sort.sort ltF ys.toArray) m2) := hm2
    clear b19 hm2
    have hs1 : sameF m1 wt = true := sameF_of_eqv (SAME m1 zs (List.Perm.refl _) M1.out)
    have hs2 : sameF m2 wt = true := sameF_of_eqv (SAME m2 ys HP.out M2.out)
    clear SAME
    go_wp2_with (go_at_call 8; refine (zzSame_go _ _ _).mono ?_; rintro e w' ⟨rfl, rfl⟩)
    go_ret
    exact ⟨rfl, BW.out.trans (B19.out.mono BW.out.size)⟩

end Go.Proofs.Qxb6631213a
