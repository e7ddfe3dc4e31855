/-
  ppmModel (function 8): the walk.
-/
import Derived.Test.Qxb6630465aDoorModelA
namespace Go.Proofs.Qxb6630465aDoor
open Go.RowKit

theorem info4 : (Tryd.prog.info? 4).map (fun i => (i.zero, i.size, i.bytes)) = some (some (.bool false), 1, 1) := by kernel_rfl

theorem col_of {W : Int} {j c : Nat} (h : (j : Int) % W = 0) (hc : (c : Int) < W) : ((j + c : Nat) : Int) % W = (c : Int) := by
  have e : ((j + c : Nat) : Int) = (j : Int) + (c : Int) := by omega
  rw [e, Int.add_emod, h, Int.zero_add, Int.emod_emod, Int.emod_eq_of_lt (by omega) hc]
theorem row_of {W : Int} {j c : Nat} (h : (j : Int) % W = 0) (hc : (c : Int) = W) : ((j + c : Nat) : Int) % W = 0 := by
  have e : ((j + c : Nat) : Int) = (j : Int) + W := by omega
  rw [e, Int.add_emod, h, Int.emod_self]; simp
theorem end_cases (W x : Int) (c o : Nat) (hx : x = (c : Int)) (ho : o = c % 5) :
    (((c : Int) == W - 1) = true ∧ pxEnd W x = 10) ∨ (((c : Int) == W - 1) = false ∧ ((o : Int) + 1 == 5) = true ∧ pxEnd W x = 10) ∨ (((c : Int) == W - 1) = false ∧ ((o : Int) + 1 == 5) = false ∧ pxEnd W x = 32) := by
  subst hx ho
  by_cases e1 : (c : Int) = W - 1
  · exact .inl ⟨by simpa using e1, by rw [pxEnd, if_pos (.inl e1)]⟩
  · by_cases e2 : (c : Int) % 5 = 4
    · exact .inr (.inl ⟨by simpa using e1, by simp; omega, by rw [pxEnd, if_pos (.inr e2)]⟩)
    · exact .inr (.inr ⟨by simpa using e1, by simp; omega, by rw [pxEnd, if_neg (by omega)]⟩)

set_option maxRecDepth 100000 in
set_option maxHeartbeats 3200000 in
theorem model8 (W H : Int) (hW : InI W) (hH : InI H) (aw : Option Addr) (nw cw : Nat) (ax : Option Addr) (n cx : Nat) (ay : Option Addr) (cy : Nat) (ao : Option Addr) (nb : Nat) (hn : nw ≤ 65536) (hnh : n ≤ 65536) (wat : List Bool) (xs ys zs : List Int) (hz : zs.length = nb) (hnb : nb ≤ 65536) (w : World)
    (hF : Full w (.slice ao nb nb) zs) (hB : HasB w aw nw wat) (hX : Has .i64 w ax n xs) (hY : Has .i64 w ay n ys) (hWp : 0 < nw → 0 < W) :
    Calls Tryd.prog 8 #[.int .i64 W, .int .i64 H, .slice aw nw cw, .slice ax n cx, .slice ay n cy, .slice ao nb nb] w fun e w' =>
      ∃ v, e = .returned v ∧ St w w.heap.size w' v (zs ++ hdr W H ++ body W (pts xs ys n) wat nw) := by
  obtain ⟨i0, hi, hz0, hz1, hz2⟩ := info_parts info5
  obtain ⟨j0, hj, jz0, jz1, jz2⟩ := info_parts info4
  have lW := Lib.itoa_length_le W hW.1 hW.2
  have lH := Lib.itoa_length_le H hH.1 hH.2
  go_enter Tryd.func8, Tryd.ntmps8
  go_wp2_with (at_make; go_loud (refine wpList_make_own _ rfl _ _ 24 rfl w.heap.size 5 i0 (.int .u8 0) 1 Tryd.underlying24 hi hz0 hz1 .i64 .i64 ((nb : Int) + 64 + 12 * (nw : Int)) (nb + 64 + 12 * nw) rfl rfl (by omega) (by rw [hz2]; omega) (by unfold maxLen; omega) (Nat.le_refl _) ?_); intro w1 hown1 hg1; refine Hid.out ?_)
  refine Lib.hid ?_
  have b1 : Below w.heap.size w w1 := Below.grown (Below.refl _ _) hg1 (Nat.le_refl _) (by intro k hk; cases hk)
  have S1 : St w w.heap.size w1 (.slice (some ⟨w.heap.size, 0, none⟩) 0 (nb + 64 + 12 * nw)) [] := ⟨hown1, b1, Nat.le_refl _⟩
  have F1 := hF.below b1
  clear hown1 hg1 b1
  go_wp2_with (at_builtin; go_loud (refine wpList_appF rfl _ _ rfl _ _ zs rfl S1 _ rfl F1 (by simp; omega) ?_); intro v2 w2 S2; refine Hid.out ?_)
  refine Lib.hid ?_
  clear S1 F1 hF
  rw [List.nil_append] at S2
  go_wp2_with (at_builtin; refine wpList_appS rfl _ _ rfl v2 _ rfl S2 [80, 51, 10] rfl (by simp; omega) ?_; intro v3 w3 S3 _; refine Hid.out ?_)
  refine Lib.hid ?_
  clear S2
  go_wp2_with (go_at_call 12; refine (dec12 w w.heap.size W hW v3 _ w3 S3 (by simp [bz_length]; omega)).mono ?_; rintro e w4 ⟨v4, rfl, S4⟩; refine Hid.out ?_)
  refine Lib.hid ?_
  clear S3
  go_wp2_with (at_builtin; refine wpList_app1 rfl _ _ rfl v4 _ 32 rfl S4 rfl (by simp [bz_length]; omega) ?_; intro v5 w5 S5 _; refine Hid.out ?_)
  refine Lib.hid ?_
  clear S4
  go_wp2_with (go_at_call 12; refine (dec12 w w.heap.size H hH v5 _ w5 S5 (by simp [bz_length]; omega)).mono ?_; rintro e w6 ⟨v6, rfl, S6⟩; refine Hid.out ?_)
  refine Lib.hid ?_
  clear S5
  go_wp2_with (at_builtin; refine wpList_app1 rfl _ _ rfl v6 _ 10 rfl S6 rfl (by simp [bz_length]; omega) ?_; intro v7 w7 S7 _; refine Hid.out ?_)
  refine Lib.hid ?_
  clear S6
  go_wp2_with (at_builtin; refine wpList_appS rfl _ _ rfl v7 _ rfl S7 [50, 53, 53, 10] rfl (by simp [bz_length]; omega) ?_; intro v8 w8 S8 _; refine Hid.out ?_)
  refine Lib.hid ?_
  have S8' : St w w.heap.size w8 v8 (zs ++ hdr W H) := by
    have e : zs ++ bz [80, 51, 10] ++ bz (Lib.itoa W) ++ [32] ++ bz (Lib.itoa H) ++ [10] ++ bz [50, 53, 53, 10] = zs ++ hdr W H := by simp [hdr, bz]
    rw [← e]; exact S8
  clear S7 S8
  have hll := hdr_le W H hW hH
  have hl8 : (zs ++ hdr W H).length ≤ 65536 + 51 := by simp; omega
  obtain ⟨l8, hl8e⟩ : ∃ l8, l8 = zs ++ hdr W H := ⟨_, rfl⟩
  rw [← hl8e] at S8' hl8
  have HL8 := Lib.hid hl8e
  clear hl8e lW lH hll
  rcases Nat.eq_zero_or_pos nw with rfl | hp
  · go_wp2
    go_ret
    have e := HL8.out
    subst e
    exact ⟨_, rfl, by simpa [body] using S8'⟩
  · have hW0 := hWp hp
    obtain ⟨bw, ow, haw, hbw, hcw⟩ := hB hp
    subst haw
    have HCW := Lib.hid hcw
    clear hcw hB hWp
    have hne : ((nw : Int) == 0) = false := by simp; omega
    go_wp2_with (at_make; go_loud (refine wpList_make_full _ rfl _ _ 22 rfl w.heap.size 4 j0 (.bool false) 1 Tryd.underlying22 hj jz0 jz1 .i64 .i64 (nw : Int) (nw : Int) nw rfl rfl rfl rfl (by rw [jz2]; omega) (by unfold maxLen; omega) S8'.sz ?_); intro w9 hown9 hg9)
    have S9 : St w w.heap.size w9 v8 l8 := ⟨S8'.own.kept hg9 (by rcases hob : v8.ownBlock with _ | g; exact .inl rfl; exact .inr (by simp)), Below.grown S8'.bel hg9 S8'.sz (by intro k hk; cases hk), S8'.szb⟩
    have G9 : Grid w9 w8.heap.size nw W [] := by
      have hw := ownsRow_whole hown9
      refine ⟨_, hw.1, by simpa using hw.2, fun i hi => ?_⟩
      simp [madeCells, hi, Value.cells, Nat.mod_one]
    clear hown9 hg9
    have hbh : w.heap.size ≤ w8.heap.size := S8'.sz
    generalize hbhe : w8.heap.size = bh at G9 hbh
    go_loopw [16] (fun i wr => ∃ k : Nat, k ≤ n ∧ i = .int .i64 k ∧ St w w.heap.size wr v8 l8 ∧ Grid wr bh nw W (pts xs ys k)) (fun i _ => n - (intOf i).toNat)
    case atStart => exact ⟨0, Nat.zero_le _, rfl, S9, G9⟩
    case round =>
      obtain ⟨k, hk, rfl, S, G⟩ := hrel
      by_cases hlt : k < n
      · obtain ⟨bx, ox, hae, hbx, hcx⟩ := hX (by omega)
        subst hae
        obtain ⟨by_, oy, hae, hby, hcy⟩ := hY (by omega)
        subst hae
        have c0 : wr.cell? ⟨bx, ox + k, none⟩ = some (.int .i64 (xs.getD k 0)) := (S.bel.cell (p := ⟨bx, ox + k, none⟩) hbx).trans (hcx k hlt)
        have c1 : wr.cell? ⟨by_, oy + k, none⟩ = some (.int .i64 (ys.getD k 0)) := (S.bel.cell (p := ⟨by_, oy + k, none⟩) hby).trans (hcy k hlt)
        have hpn : pts xs ys (k + 1) = pts xs ys k ++ [(xs.getD k 0, ys.getD k 0)] := pts_succ xs ys k
        generalize xs.getD k 0 = x at c0 hpn
        generalize ys.getD k 0 = y at c1 hpn
        have HP := Lib.hid hpn
        clear hcx hcy hpn S9 G9 hX hY S8'
        have hWn : ¬ W = 0 := by omega
        have hd0 : 0 ≤ (nw : Int) / W := Int.ediv_nonneg (by omega) (by omega)
        have hd1 : (nw : Int) / W ≤ (nw : Int) := Int.ediv_le_self _ (by omega)
        have hW1 : W ≤ 9223372036854775807 := hW.2
        rcases (show x < 0 ∨ (0 ≤ x ∧ W ≤ x) ∨ (0 ≤ x ∧ x < W ∧ y < 0) ∨ (0 ≤ x ∧ x < W ∧ 0 ≤ y ∧ (nw : Int) / W < y) ∨ (0 ≤ x ∧ x < W ∧ 0 ≤ y ∧ y ≤ (nw : Int) / W) from by omega) with h | ⟨h, h'⟩ | ⟨h, h', h2⟩ | ⟨h, h', h2, h3⟩ | ⟨h, h', h2, h3⟩
        · go_wp2
          go_roundw
          case rel => exact ⟨k + 1, by omega, by go_num, S, by rw [HP.out]; exact G.skip (no_square hW0 (by omega))⟩
          case measure => simp [intOf]; omega
        · go_wp2
          go_roundw
          case rel => exact ⟨k + 1, by omega, by go_num, S, by rw [HP.out]; exact G.skip (no_square hW0 (by omega))⟩
          case measure => simp [intOf]; omega
        · go_wp2
          go_roundw
          case rel => exact ⟨k + 1, by omega, by go_num, S, by rw [HP.out]; exact G.skip (no_square hW0 (by omega))⟩
          case measure => simp [intOf]; omega
        · go_wp2
          go_roundw
          case rel => exact ⟨k + 1, by omega, by go_num, S, by rw [HP.out]; exact G.skip (no_square hW0 (by omega))⟩
          case measure => simp [intOf]; omega
        · have hyW0 : 0 ≤ y * W := Int.mul_nonneg h2 (by omega)
          have hyW1 : y * W ≤ (nw : Int) := by
            have e1 : y * W ≤ (nw : Int) / W * W := Int.mul_le_mul_of_nonneg_right h3 (by omega)
            have e2 := Int.mul_ediv_add_emod (nw : Int) W
            have e3 : 0 ≤ (nw : Int) % W := Int.emod_nonneg _ hWn
            rw [Int.mul_comm] at e2
            omega
          by_cases h4 : x < (nw : Int) - y * W
          · have hii : (y * W + x).toNat < nw := by omega
            have gc := G.cell _ hii
            obtain ⟨u0, hu0⟩ : ∃ u0, wr.cell? ⟨bh, (y * W + x).toNat, none⟩ = some u0 := ⟨_, gc.1⟩
            have hf0 := gc.2
            have hput := G.put (x := x) (y := y) hii hW0 h h' (by omega)
            have hSt := S.setGrid (i := (y * W + x).toNat) G hbh (.bool true)
            have HPUT := Lib.hid hput
            have HST := Lib.hid hSt
            have hb1 : y * W + x < (nw : Int) := by omega
            clear gc hput hSt
            go_wp2
            go_roundw
            case rel => exact ⟨k + 1, by omega, by go_num, HST.out, by rw [HP.out]; exact HPUT.out⟩
            case measure => simp [intOf]; omega
          · go_wp2
            go_roundw
            case rel => exact ⟨k + 1, by omega, by go_num, S, by rw [HP.out]; exact G.skip (no_square hW0 (by omega))⟩
            case measure => simp [intOf]; omega
      · have hkn : k = n := by omega
        subst hkn
        have Gk := G
        clear S9 G9 hX hY S8' hbhe
        obtain ⟨ps, hps⟩ : ∃ ps, ps = pts xs ys k := ⟨_, rfl⟩
        rw [← hps] at G Gk
        have HPS := Lib.hid hps
        clear hps Gk
        have hW1 : W ≤ 9223372036854775807 := hW.2
        go_wp2
        go_loopw [14, 20] (fun v i wr => ∃ j : Nat, j ≤ nw ∧ i = .int .i64 j ∧ (j < nw → (j : Int) % W = 0) ∧ St w w.heap.size wr v (l8 ++ body W ps wat j) ∧ Grid wr bh nw W ps) (fun _ i _ => nw - (intOf i).toNat)
        case atStart => exact ⟨0, Nat.zero_le _, rfl, fun _ => by simp, by simpa [body] using S, G⟩
        case round =>
          obtain ⟨j, hj, rfl, hj0, S2, G2⟩ := hrel
          by_cases hlt2 : j < nw
          · have hj1 : (j : Int) % W = 0 := hj0 hlt2
            have HJ := Lib.hid hj1
            clear hj0 hj1 S G
            go_wp2
            go_loopw [14, 20, 21, 22] (fun v i c o wr => ∃ p cN oN : Nat, i = .int .i64 p ∧ c = .int .i64 cN ∧ o = .int .i64 oN ∧ p ≤ nw ∧ (cN : Int) ≤ W ∧ oN ≤ 4 ∧ p = j + cN ∧ ((cN : Int) < W → oN = cN % 5) ∧ St w w.heap.size wr v (l8 ++ body W ps wat p) ∧ Grid wr bh nw W ps) (fun _ i _ _ _ => nw - (intOf i).toNat)
            case atStart => exact ⟨j, 0, 0, rfl, rfl, rfl, hj, by omega, by omega, rfl, fun _ => rfl, S2, G2⟩
            case round =>
              obtain ⟨p, cN, oN, rfl, rfl, rfl, hpn, hcW, hoN, hpe, hoe, S3, G3⟩ := hrel
              have HPE := Lib.hid hpe
              have HOE := Lib.hid hoe
              have hjp : j ≤ p := by omega
              have hcn : cN ≤ nw := by omega
              clear hpe hoe S2 G2
              by_cases hc1 : (cN : Int) < W
              · by_cases hp1 : p < nw
                · have hxc : (p : Int) % W = (cN : Int) := by rw [HPE.out]; exact col_of HJ.out hc1
                  have HXC := Lib.hid hxc
                  have hho : oN = cN % 5 := HOE.out hc1
                  have HHO := Lib.hid hho
                  have hec := end_cases W ((p : Int) % W) cN oN hxc hho
                  clear hxc hho
                  have hcw : wr.cell? ⟨bw, ow + p, none⟩ = some (.bool (wat.getD p false)) := (S3.bel.cell (p := ⟨bw, ow + p, none⟩) hbw).trans (HCW.out p hp1)
                  have hgc := (G3.cell p hp1).1
                  obtain ⟨wt, hwt⟩ : ∃ c, c = wat.getD p false := ⟨_, rfl⟩
                  rw [← hwt] at hcw
                  have HWT := Lib.hid hwt
                  obtain ⟨hl, hhl⟩ : ∃ c, c = decide (((p : Int) % W, (p : Int) / W) ∈ ps) := ⟨_, rfl⟩
                  rw [← hhl] at hgc
                  have HHL := Lib.hid hhl
                  clear hwt hhl
                  have hbl := body_le W ps wat p
                  have hlen : (l8 ++ body W ps wat p).length ≤ 2000000 := by simp; omega
                  have HEC := Lib.hid hec
                  clear hec hbl
                  cases wt
                  · cases hl
                    · go_wp2_with (at_builtin; refine wpList_appS rfl _ _ rfl u14 _ rfl S3 [50, 53, 53, 32, 50, 53, 53, 32, 50, 53, 53] rfl (by simp at hlen ⊢; omega) ?_; intro v9 w9 S9 g9; refine Hid.out ?_)
                      refine Lib.hid ?_
                      have S9' : St w w.heap.size w9 v9 (l8 ++ body W ps wat p ++ pxCol W ps wat p) := by rw [pxCol_none HWT.out HHL.out]; exact S9
                      have G9 := G3.kept g9 (G3.ne_row S3)
                      have hpc := pxCol_le W ps wat p
                      have hlen9 : (l8 ++ body W ps wat p ++ pxCol W ps wat p).length ≤ 2000011 := by simp at hlen ⊢; omega
                      clear S9 g9 hlen hpc S3 G3 hcw hgc
                      generalize hl9 : l8 ++ body W ps wat p ++ pxCol W ps wat p = l9 at S9' hlen9
                      have HL9 := Lib.hid hl9
                      clear hl9
                      rcases HEC.out with ⟨e1, hE⟩ | ⟨e1, e2, hE⟩ | ⟨e1, e2, hE⟩
                      all_goals
                        have HE := Lib.hid hE
                        clear hE HEC
                      · go_wp2_with (at_builtin; refine wpList_app1 rfl _ _ rfl v9 _ 10 rfl S9' rfl (by omega) ?_; intro v10 w10 S10 g10)
                        go_roundw
                        case rel => exact ⟨p + 1, cN + 1, 0, by go_num, by go_num, by go_num, by omega, by omega, by omega, by have := HPE.out; omega, fun h => by simp at e1; omega, by rw [body_next HL9.out HE.out]; exact S10, (G9.alloc _).kept g10 (G9.ne_row S9')⟩
                        case measure => simp [intOf]; omega
                      · go_wp2_with (at_builtin; refine wpList_app1 rfl _ _ rfl v9 _ 10 rfl S9' rfl (by omega) ?_; intro v10 w10 S10 g10)
                        go_roundw
                        case rel => exact ⟨p + 1, cN + 1, 0, by go_num, by go_num, by go_num, by omega, by omega, by omega, by have := HPE.out; omega, fun h => by have := HHO.out; simp at e2; omega, by rw [body_next HL9.out HE.out]; exact S10, (G9.alloc _).kept g10 (G9.ne_row S9')⟩
                        case measure => simp [intOf]; omega
                      · go_wp2_with (at_builtin; refine wpList_app1 rfl _ _ rfl v9 _ 32 rfl S9' rfl (by omega) ?_; intro v10 w10 S10 g10)
                        go_roundw
                        case rel => exact ⟨p + 1, cN + 1, oN + 1, by go_num, by go_num, by go_num, by omega, by omega, by simp at e2; omega, by have := HPE.out; omega, fun h => by have := HHO.out; simp at e2; omega, by rw [body_next HL9.out HE.out]; exact S10, (G9.alloc _).kept g10 (G9.ne_row S9')⟩
                        case measure => simp [intOf]; omega
                    · go_wp2_with (at_builtin; refine wpList_appS rfl _ _ rfl u14 _ rfl S3 [50, 53, 53, 32, 48, 32, 48] rfl (by simp at hlen ⊢; omega) ?_; intro v9 w9 S9 g9; refine Hid.out ?_)
                      refine Lib.hid ?_
                      have S9' : St w w.heap.size w9 v9 (l8 ++ body W ps wat p ++ pxCol W ps wat p) := by rw [pxCol_hill HWT.out HHL.out]; exact S9
                      have G9 := G3.kept g9 (G3.ne_row S3)
                      have hpc := pxCol_le W ps wat p
                      have hlen9 : (l8 ++ body W ps wat p ++ pxCol W ps wat p).length ≤ 2000011 := by simp at hlen ⊢; omega
                      clear S9 g9 hlen hpc S3 G3 hcw hgc
                      generalize hl9 : l8 ++ body W ps wat p ++ pxCol W ps wat p = l9 at S9' hlen9
                      have HL9 := Lib.hid hl9
                      clear hl9
                      rcases HEC.out with ⟨e1, hE⟩ | ⟨e1, e2, hE⟩ | ⟨e1, e2, hE⟩
                      all_goals
                        have HE := Lib.hid hE
                        clear hE HEC
                      · go_wp2_with (at_builtin; refine wpList_app1 rfl _ _ rfl v9 _ 10 rfl S9' rfl (by omega) ?_; intro v10 w10 S10 g10)
                        go_roundw
                        case rel => exact ⟨p + 1, cN + 1, 0, by go_num, by go_num, by go_num, by omega, by omega, by omega, by have := HPE.out; omega, fun h => by simp at e1; omega, by rw [body_next HL9.out HE.out]; exact S10, (G9.alloc _).kept g10 (G9.ne_row S9')⟩
                        case measure => simp [intOf]; omega
                      · go_wp2_with (at_builtin; refine wpList_app1 rfl _ _ rfl v9 _ 10 rfl S9' rfl (by omega) ?_; intro v10 w10 S10 g10)
                        go_roundw
                        case rel => exact ⟨p + 1, cN + 1, 0, by go_num, by go_num, by go_num, by omega, by omega, by omega, by have := HPE.out; omega, fun h => by have := HHO.out; simp at e2; omega, by rw [body_next HL9.out HE.out]; exact S10, (G9.alloc _).kept g10 (G9.ne_row S9')⟩
                        case measure => simp [intOf]; omega
                      · go_wp2_with (at_builtin; refine wpList_app1 rfl _ _ rfl v9 _ 32 rfl S9' rfl (by omega) ?_; intro v10 w10 S10 g10)
                        go_roundw
                        case rel => exact ⟨p + 1, cN + 1, oN + 1, by go_num, by go_num, by go_num, by omega, by omega, by simp at e2; omega, by have := HPE.out; omega, fun h => by have := HHO.out; simp at e2; omega, by rw [body_next HL9.out HE.out]; exact S10, (G9.alloc _).kept g10 (G9.ne_row S9')⟩
                        case measure => simp [intOf]; omega
                  · go_wp2_with (at_builtin; refine wpList_appS rfl _ _ rfl u14 _ rfl S3 [48, 32, 48, 32, 50, 53, 53] rfl (by simp at hlen ⊢; omega) ?_; intro v9 w9 S9 g9; refine Hid.out ?_)
                    refine Lib.hid ?_
                    have S9' : St w w.heap.size w9 v9 (l8 ++ body W ps wat p ++ pxCol W ps wat p) := by rw [pxCol_water HWT.out]; exact S9
                    have G9 := G3.kept g9 (G3.ne_row S3)
                    have hpc := pxCol_le W ps wat p
                    have hlen9 : (l8 ++ body W ps wat p ++ pxCol W ps wat p).length ≤ 2000011 := by simp at hlen ⊢; omega
                    clear S9 g9 hlen hpc S3 G3 hcw hgc
                    generalize hl9 : l8 ++ body W ps wat p ++ pxCol W ps wat p = l9 at S9' hlen9
                    have HL9 := Lib.hid hl9
                    clear hl9
                    rcases HEC.out with ⟨e1, hE⟩ | ⟨e1, e2, hE⟩ | ⟨e1, e2, hE⟩
                    all_goals
                      have HE := Lib.hid hE
                      clear hE HEC
                    · go_wp2_with (at_builtin; refine wpList_app1 rfl _ _ rfl v9 _ 10 rfl S9' rfl (by omega) ?_; intro v10 w10 S10 g10)
                      go_roundw
                      case rel => exact ⟨p + 1, cN + 1, 0, by go_num, by go_num, by go_num, by omega, by omega, by omega, by have := HPE.out; omega, fun h => by simp at e1; omega, by rw [body_next HL9.out HE.out]; exact S10, (G9.alloc _).kept g10 (G9.ne_row S9')⟩
                      case measure => simp [intOf]; omega
                    · go_wp2_with (at_builtin; refine wpList_app1 rfl _ _ rfl v9 _ 10 rfl S9' rfl (by omega) ?_; intro v10 w10 S10 g10)
                      go_roundw
                      case rel => exact ⟨p + 1, cN + 1, 0, by go_num, by go_num, by go_num, by omega, by omega, by omega, by have := HPE.out; omega, fun h => by have := HHO.out; simp at e2; omega, by rw [body_next HL9.out HE.out]; exact S10, (G9.alloc _).kept g10 (G9.ne_row S9')⟩
                      case measure => simp [intOf]; omega
                    · go_wp2_with (at_builtin; refine wpList_app1 rfl _ _ rfl v9 _ 32 rfl S9' rfl (by omega) ?_; intro v10 w10 S10 g10)
                      go_roundw
                      case rel => exact ⟨p + 1, cN + 1, oN + 1, by go_num, by go_num, by go_num, by omega, by omega, by simp at e2; omega, by have := HPE.out; omega, fun h => by have := HHO.out; simp at e2; omega, by rw [body_next HL9.out HE.out]; exact S10, (G9.alloc _).kept g10 (G9.ne_row S9')⟩
                      case measure => simp [intOf]; omega
                · have hpe2 : p = nw := by omega
                  have hd : ¬ (p : Int) < (nw : Int) := by omega
                  have HPN := Lib.hid hpe2
                  clear hpe2
                  go_wp2
                  go_roundw
                  case rel => exact ⟨p, hpn, by go_num, fun h => by omega, S3, G3⟩
                  case measure => simp [intOf]; omega
              · go_wp2
                go_roundw
                case rel => exact ⟨p, hpn, by go_num, fun h => by rw [HPE.out]; exact row_of HJ.out (by omega), S3, G3⟩
                case measure => have := HPE.out; simp [intOf]; omega
          · have hjn : j = nw := by omega
            subst hjn
            go_wp2
            go_ret
            have e8 := HL8.out
            have e9 := HPS.out
            subst e8 e9
            exact ⟨_, rfl, S2⟩

end Go.Proofs.Qxb6630465aDoor
