/-
  FnAppendPPMMatchesModel (function 3): the walk.
-/
import Derived.Test.Qxb6630465aDoorModel
import Derived.Test.Qxb6630465aDoorShortWalk
namespace Go.Proofs.Qxb6630465aDoor
open Go.RowKit

set_option maxHeartbeats 800000 in
/-- ppmBytesEqual, of two slices that hold the same -/
theorem equal10 (g1 g2 L c1 c2 : Nat) (T : List Int) (w : World) (hL : L ≤ 2000000) (hg1 : g1 < w.heap.size) (hg2 : g2 < w.heap.size) (h1 : ∀ j, j < L → w.cell? ⟨g1, j, none⟩ = some (.int .u8 (T.getD j 0))) (h2 : ∀ j, j < L → w.cell? ⟨g2, j, none⟩ = some (.int .u8 (T.getD j 0))) :
    Calls Tryd.prog 10 #[.slice (some ⟨g1, 0, none⟩) L c1, .slice (some ⟨g2, 0, none⟩) L c2] w fun e w' => e = .returned (.bool true) ∧ Below w.heap.size w w' := by
  have H1 := Lib.hid h1
  have H2 := Lib.hid h2
  clear h1 h2
  go_enter Tryd.func10, Tryd.ntmps10
  go_wp2
  go_loopw [5] (fun i wr => ∃ k : Nat, k ≤ L ∧ i = .int .i64 k ∧ Below w.heap.size w wr) (fun i _ => L - (intOf i).toNat)
  case atStart => exact ⟨0, Nat.zero_le _, rfl, Below.refl _ _⟩
  case round =>
    obtain ⟨k, hk, rfl, hnx⟩ := hrel
    by_cases hlt : k < L
    · have e1 : wr.cell? ⟨g1, k, none⟩ = some (.int .u8 (T.getD k 0)) := (hnx.cell (by exact hg1)).trans (H1.out k hlt)
      have e2 : wr.cell? ⟨g2, k, none⟩ = some (.int .u8 (T.getD k 0)) := (hnx.cell (by exact hg2)).trans (H2.out k hlt)
      generalize T.getD k 0 = c at e1 e2
      go_wp2
      go_quiet (fail)
      go_wp2
      go_roundw
      case rel => exact ⟨k + 1, by omega, by go_num, hnx.trans ⟨rfl, rfl, rfl, Nat.le_refl _, fun _ _ => rfl⟩⟩
      case measure => simp [intOf]; omega
    · go_wp2
      go_ret
      exact ⟨rfl, hnx⟩

theorem modelM (W H : Int) (hW : InI W) (hH : InI H) (aw : Option Addr) (nw cw : Nat) (ax : Option Addr) (n cx : Nat) (ay : Option Addr) (cy : Nat) (ao : Option Addr) (nb : Nat) (hn : nw ≤ 65536) (hnh : n ≤ 65536) (wat : List Bool) (xs ys zs : List Int) (hz : zs.length = nb) (hnb : nb ≤ 65536) (w : World)
    (hF : Full w (.slice ao nb nb) zs) (hB : HasB w aw nw wat) (hX : Has .i64 w ax n xs) (hY : Has .i64 w ay n ys) (hWp : 0 < nw → 0 < W) :
    Calls Tryd.prog 8 #[.int .i64 W, .int .i64 H, .slice aw nw cw, .slice ax n cx, .slice ay n cy, .slice ao nb nb] w fun e w' =>
      ∃ (T : List Int) (g cap : Nat), e = .returned (.slice (some ⟨g, 0, none⟩) T.length cap) ∧ Hid (T = zs ++ text W H nw n wat xs ys) ∧ g < w'.heap.size ∧ (∀ j, j < T.length → w'.cell? ⟨g, j, none⟩ = some (.int .u8 (T.getD j 0))) ∧ Below w.heap.size w w' := by
  refine (model8 W H hW hH aw nw cw ax n cx ay cy ao nb hn hnh wat xs ys zs hz hnb w hF hB hX hY hWp).mono ?_
  rintro e w' ⟨v', rfl, S⟩
  have e1 : zs ++ hdr W H ++ body W (pts xs ys n) wat nw = zs ++ text W H nw n wat xs ys := by simp [text]
  rw [e1] at S
  have hp := text_pos W H nw n wat xs ys
  have ho := S.own
  have ho' := ho
  rcases ho.2 with ⟨_, h0⟩ | ⟨g, cap, cur, rfl, hg, hh, h1, h2, h3, h4⟩
  · rw [List.length_append] at h0; omega
  · refine ⟨zs ++ text W H nw n wat xs ys, g, cap, rfl, rfl, (Array.getElem?_eq_some_iff.1 hh).1, fun j hj => ?_, S.bel⟩
    rw [ho'.cellAt j (by omega)]
    exact cz_get _ j hj

set_option maxHeartbeats 3200000 in
theorem match3_bad (W H : Int) (aw : Option Addr) (nw cw : Nat) (ax : Option Addr) (nx cx : Nat) (ay : Option Addr) (ny cy : Nat) (ab : Option Addr) (nb cb : Nat) (w : World) (hG : ¬ Good W nw nx ny nb) :
    Calls Tryd.prog 3 #[.int .i64 W, .int .i64 H, .slice aw nw cw, .slice ax nx cx, .slice ay ny cy, .slice ab nb cb] w fun e w' => e = .returned (.bool true) ∧ Below w.heap.size w w' := by
  go_enter Tryd.func3, Tryd.ntmps3
  go_wp2_with (go_at_call 5; refine (zz5 W H aw ax ay ab nw cw nx cx ny cy nb cb w).mono ?_; rintro e w' ⟨r, rfl, rfl, hr⟩; refine Hid.out ?_)
  refine Lib.hid ?_
  cases r
  · go_wp2
    go_ret
    exact ⟨rfl, Below.refl _ _⟩
  have hsum := hr rfl
  clear hr
  go_wp2_with fail
  all_goals first
    | (go_ret; exact ⟨rfl, Below.refl _ _⟩)
    | (have hne : ((nx : Int) != (ny : Int)) = false := by assumption
       have hxy : nx = ny := by simp at hne; omega
       exact absurd ⟨by omega, by omega, by omega, by omega, by omega, hxy, fun _ => by omega⟩ hG)

set_option maxHeartbeats 3200000 in
theorem match3_good (W H : Int) (aw : Option Addr) (nw cw : Nat) (ax : Option Addr) (n cx : Nat) (ay : Option Addr) (cy : Nat) (ab : Option Addr) (nb cb : Nat) (wat : List Bool) (xs ys zs : List Int) (w : World)
    (A : Args w W H aw nw ax n ay n ab nb cb wat xs ys zs) (h1 : nb ≤ 65536) (h2 : nw ≤ 65536) (h3 : n ≤ 65536) (h4 : nb + nw + 8 * n + 8 * n ≤ 1048576) (h5 : 0 < nw → 0 < W) :
    Calls Tryd.prog 3 #[.int .i64 W, .int .i64 H, .slice aw nw cw, .slice ax n cx, .slice ay n cy, .slice ab nb cb] w fun e w' => e = .returned (.bool true) ∧ Below w.heap.size w w' := by
  rcases Nat.eq_zero_or_pos nw with rfl | h0
  · go_enter Tryd.func3, Tryd.ntmps3
    go_wp2_with (go_at_call 5; refine (zz5 W H aw ax ay ab 0 cw n cx n cy nb cb w).mono ?_; rintro e w' ⟨r, rfl, rfl, hr⟩; refine Hid.out ?_)
    refine Lib.hid ?_
    cases r
    · go_wp2
      go_ret
      exact ⟨rfl, Below.refl _ _⟩
    clear hr
    go_wp2_with (go_at_call 6; refine (clone6' ab nb cb zs w A.bl (by omega) A.bn A.bc).mono ?_; rintro e w1 ⟨ao, rfl, F1, hb1, b1⟩; refine Hid.out ?_)
    refine Lib.hid ?_
    clear hb1
    go_wp2_with (go_at_call 7; refine (build7 W H aw 0 cw ax ay cx cy n xs ys w1 (by omega) (A.hx.below b1) (A.hy.below b1)).mono ?_; rintro e w2 ⟨rfl, P2, b2⟩; refine Hid.out ?_)
    refine Lib.hid ?_
    have hz2 : w1.heap.size + 1 < w2.heap.size := by
      obtain ⟨cur, hh, _⟩ := P2
      exact (Array.getElem?_eq_some_iff.1 hh).1
    have b12 := b1.trans (b2.mono b1.size)
    have M2 : MapAt w2 aw 0 (w1.heap.size + 1) n wat xs ys := ⟨A.wa.below b12, P2, hz2, fun w'' h'' => A.tab w'' (b12.trans (h''.mono b12.size))⟩
    obtain ⟨bx, hbx⟩ : ∃ o, o = Obj.cells #[.int .i64 W, .int .i64 H, .slice aw 0 cw, .slice (some ⟨w1.heap.size + 1, 0, none⟩) n n] 29 := ⟨_, rfl⟩
    have b23 : Below w2.heap.size w2 (w2.alloc bx) := (Below.refl _ _).alloc (Nat.le_refl _) _
    have M3 := M2.below b23
    have F3 := (F1.below b2).below b23
    have b13 := b12.trans (b23.mono b12.size)
    rw [hbx] at M3 F3 b23 b13
    have X3 := A.hx.below b13
    have Y3 := A.hy.below b13
    have HA := Lib.hid A
    clear A P2 M2 F1 hbx
    go_wp2_with (go_at_call 8; refine (modelM W H HA.out.hW HA.out.hH aw 0 cw ax n cx ay cy ao nb (by omega) h3 wat xs ys zs HA.out.bl h1 _ F3 M3.wa X3 Y3 (by omega)).mono ?_; rintro e w4 ⟨T1, g1, cap1, rfl, HT1, hl1, hc1, b4⟩; refine Hid.out ?_)
    refine Lib.hid ?_
    have M4 := M3.below b4
    have F4 := F3.below b4
    have hbox : w4.heap[w2.heap.size]? = some (.cells #[.int .i64 W, .int .i64 H, .slice aw 0 cw, .slice (some ⟨w1.heap.size + 1, 0, none⟩) n n] 29) := (b4.block _ (by simp)).trans (heap_alloc_new _ _)
    have q0 : w4.cell? ⟨w2.heap.size, 0, none⟩ = some (.int .i64 W) := by simp [World.cell?, hbox]
    have q1 : w4.cell? ⟨w2.heap.size, 1, none⟩ = some (.int .i64 H) := by simp [World.cell?, hbox]
    have q2 : w4.cell? ⟨w2.heap.size, 2, none⟩ = some (.slice aw 0 cw) := by simp [World.cell?, hbox]
    have q3 : w4.cell? ⟨w2.heap.size, 3, none⟩ = some (.slice (some ⟨w1.heap.size + 1, 0, none⟩) n n) := by simp [World.cell?, hbox]
    have b14 := b13.trans (b4.mono b13.size)
    clear M3 F3 b23 hbox X3 Y3
    go_wp2_with (go_at_call 9; refine (ppmM W H HA.out.hW HA.out.hH aw 0 cw (w1.heap.size + 1) n (by omega) h3 (.slice ao nb nb) zs (by have := HA.out.bl; omega) xs ys wat w4 F4 M4 HA.out.ix HA.out.iy (by omega)).mono ?_; rintro e w5 ⟨T2, g2, cap2, rfl, HT2, hg2, hl2, hc2, b5⟩; refine Hid.out ?_)
    refine Lib.hid ?_
    clear q0 q1 q2 q3 M4 F4
    have b15 := b14.trans (b5.mono b14.size)
    obtain rfl : T2 = T1 := HT2.out.trans HT1.out.symm
    have hc1' : ∀ j, j < T2.length → w5.cell? ⟨g1, j, none⟩ = some (.int .u8 (T2.getD j 0)) := fun j hj => (b5.cell (p := ⟨g1, j, none⟩) hl1).trans (hc1 j hj)
    have hl1' : g1 < w5.heap.size := Nat.lt_of_lt_of_le hl1 b5.size
    have hTle : T2.length ≤ 2000000 := by rw [HT1.out]; have := text_le W H HA.out.hW HA.out.hH 0 n wat xs ys; have := HA.out.bl; simp; omega
    have HC1 := Lib.hid hc1'
    have HC2 := Lib.hid hc2
    have HB := Lib.hid b15
    clear hc1 hc1' hc2 b15 b1 b2 b12 b13 b14 b4 b5 hl1 hg2 hz2
    go_wp2_with (go_at_call 10; refine (equal10 g2 g1 T2.length cap2 cap1 T2 w5 hTle hl2 hl1' HC2.out HC1.out).mono ?_; rintro e w6 ⟨rfl, b6⟩; refine Hid.out ?_)
    refine Lib.hid ?_
    go_wp2
    go_ret
    exact ⟨rfl, HB.out.trans (b6.mono HB.out.size)⟩
  · go_enter Tryd.func3, Tryd.ntmps3
    go_wp2_with (go_at_call 5; refine (zz5 W H aw ax ay ab nw cw n cx n cy nb cb w).mono ?_; rintro e w' ⟨r, rfl, rfl, hr⟩; refine Hid.out ?_)
    refine Lib.hid ?_
    cases r
    · go_wp2
      go_ret
      exact ⟨rfl, Below.refl _ _⟩
    clear hr
    go_wp2_with (go_at_call 6; refine (clone6' ab nb cb zs w A.bl (by omega) A.bn A.bc).mono ?_; rintro e w1 ⟨ao, rfl, F1, hb1, b1⟩; refine Hid.out ?_)
    refine Lib.hid ?_
    clear hb1
    go_wp2_with (go_at_call 7; refine (build7 W H aw nw cw ax ay cx cy n xs ys w1 (by omega) (A.hx.below b1) (A.hy.below b1)).mono ?_; rintro e w2 ⟨rfl, P2, b2⟩; refine Hid.out ?_)
    refine Lib.hid ?_
    have hz2 : w1.heap.size + 1 < w2.heap.size := by
      obtain ⟨cur, hh, _⟩ := P2
      exact (Array.getElem?_eq_some_iff.1 hh).1
    have b12 := b1.trans (b2.mono b1.size)
    have M2 : MapAt w2 aw nw (w1.heap.size + 1) n wat xs ys := ⟨A.wa.below b12, P2, hz2, fun w'' h'' => A.tab w'' (b12.trans (h''.mono b12.size))⟩
    obtain ⟨bx, hbx⟩ : ∃ o, o = Obj.cells #[.int .i64 W, .int .i64 H, .slice aw nw cw, .slice (some ⟨w1.heap.size + 1, 0, none⟩) n n] 29 := ⟨_, rfl⟩
    have b23 : Below w2.heap.size w2 (w2.alloc bx) := (Below.refl _ _).alloc (Nat.le_refl _) _
    have M3 := M2.below b23
    have F3 := (F1.below b2).below b23
    have b13 := b12.trans (b23.mono b12.size)
    rw [hbx] at M3 F3 b23 b13
    have X3 := A.hx.below b13
    have Y3 := A.hy.below b13
    have HA := Lib.hid A
    clear A P2 M2 F1 hbx
    go_wp2_with (go_at_call 8; refine (modelM W H HA.out.hW HA.out.hH aw nw cw ax n cx ay cy ao nb (by omega) h3 wat xs ys zs HA.out.bl h1 _ F3 M3.wa X3 Y3 (by omega)).mono ?_; rintro e w4 ⟨T1, g1, cap1, rfl, HT1, hl1, hc1, b4⟩; refine Hid.out ?_)
    refine Lib.hid ?_
    have M4 := M3.below b4
    have F4 := F3.below b4
    have hbox : w4.heap[w2.heap.size]? = some (.cells #[.int .i64 W, .int .i64 H, .slice aw nw cw, .slice (some ⟨w1.heap.size + 1, 0, none⟩) n n] 29) := (b4.block _ (by simp)).trans (heap_alloc_new _ _)
    have q0 : w4.cell? ⟨w2.heap.size, 0, none⟩ = some (.int .i64 W) := by simp [World.cell?, hbox]
    have q1 : w4.cell? ⟨w2.heap.size, 1, none⟩ = some (.int .i64 H) := by simp [World.cell?, hbox]
    have q2 : w4.cell? ⟨w2.heap.size, 2, none⟩ = some (.slice aw nw cw) := by simp [World.cell?, hbox]
    have q3 : w4.cell? ⟨w2.heap.size, 3, none⟩ = some (.slice (some ⟨w1.heap.size + 1, 0, none⟩) n n) := by simp [World.cell?, hbox]
    have b14 := b13.trans (b4.mono b13.size)
    clear M3 F3 b23 hbox X3 Y3
    go_wp2_with (go_at_call 9; refine (ppmM W H HA.out.hW HA.out.hH aw nw cw (w1.heap.size + 1) n (by omega) h3 (.slice ao nb nb) zs (by have := HA.out.bl; omega) xs ys wat w4 F4 M4 HA.out.ix HA.out.iy (by omega)).mono ?_; rintro e w5 ⟨T2, g2, cap2, rfl, HT2, hg2, hl2, hc2, b5⟩; refine Hid.out ?_)
    refine Lib.hid ?_
    clear q0 q1 q2 q3 M4 F4
    have b15 := b14.trans (b5.mono b14.size)
    obtain rfl : T2 = T1 := HT2.out.trans HT1.out.symm
    have hc1' : ∀ j, j < T2.length → w5.cell? ⟨g1, j, none⟩ = some (.int .u8 (T2.getD j 0)) := fun j hj => (b5.cell (p := ⟨g1, j, none⟩) hl1).trans (hc1 j hj)
    have hl1' : g1 < w5.heap.size := Nat.lt_of_lt_of_le hl1 b5.size
    have hTle : T2.length ≤ 2000000 := by rw [HT1.out]; have := text_le W H HA.out.hW HA.out.hH nw n wat xs ys; have := HA.out.bl; simp; omega
    have HC1 := Lib.hid hc1'
    have HC2 := Lib.hid hc2
    have HB := Lib.hid b15
    clear hc1 hc1' hc2 b15 b1 b2 b12 b13 b14 b4 b5 hl1 hg2 hz2
    go_wp2_with (go_at_call 10; refine (equal10 g2 g1 T2.length cap2 cap1 T2 w5 hTle hl2 hl1' HC2.out HC1.out).mono ?_; rintro e w6 ⟨rfl, b6⟩; refine Hid.out ?_)
    refine Lib.hid ?_
    go_wp2
    go_ret
    exact ⟨rfl, HB.out.trans (b6.mono HB.out.size)⟩

/-- THE WALK OF THE LAW -/
theorem match3 (W H : Int) (aw : Option Addr) (nw cw : Nat) (ax : Option Addr) (nx cx : Nat) (ay : Option Addr) (ny cy : Nat) (ab : Option Addr) (nb cb : Nat) (wat : List Bool) (xs ys zs : List Int) (w : World)
    (A : Args w W H aw nw ax nx ay ny ab nb cb wat xs ys zs) :
    Calls Tryd.prog 3 #[.int .i64 W, .int .i64 H, .slice aw nw cw, .slice ax nx cx, .slice ay ny cy, .slice ab nb cb] w fun e w' => e = .returned (.bool true) ∧ Below w.heap.size w w' := by
  by_cases hG : Good W nw nx ny nb
  · obtain ⟨h1, h2, h3, h4, h5, rfl, h7⟩ := hG
    exact match3_good W H aw nw cw ax nx cx ay cy ab nb cb wat xs ys zs w A h1 h2 h3 h5 h7
  · exact match3_bad W H aw nw cw ax nx cx ay ny cy ab nb cb w hG

end Go.Proofs.Qxb6630465aDoor
