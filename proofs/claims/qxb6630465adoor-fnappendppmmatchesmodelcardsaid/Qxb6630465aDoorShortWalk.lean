/-
  FnAppendPPMAppendsAndKeepsLinesShort (function 4): the walk.
-/
import Derived.Test.Qxb6630465aDoorLines
import Derived.Test.Qxb6630465aDoorInt
import Derived.Test.Qxb6630465aDoorZz
namespace Go.Proofs.Qxb6630465aDoor
open Go.RowKit

/-- what is told of the six arguments -/
structure Args (w : World) (W H : Int) (aw : Option Addr) (nw : Nat) (ax : Option Addr) (nx : Nat) (ay : Option Addr) (ny : Nat) (ab : Option Addr) (nb cb : Nat) (wat : List Bool) (xs ys zs : List Int) : Prop where
  hW : InI W
  hH : InI H
  wa : HasB w aw nw wat
  hx : Has .i64 w ax nx xs
  hy : Has .i64 w ay ny ys
  ix : ∀ j, j < nx → InI (xs.getD j 0)
  iy : ∀ j, j < ny → InI (ys.getD j 0)
  bl : zs.length = nb
  bn : ab = none → nb = 0 ∧ cb = 0
  bc : ∀ x, ab = some x → ∀ j, j < nb → w.cell? (x.add j) = some (.int .u8 (zs.getD j 0))
  tab : Lib.TabBelow Tryd.prog w.heap.size w powName .u64 Lib.pow10Tab

/-- the shape of a full slice, in one form -/
theorem Full.shape {w : World} {v : Value} {zs : List Int} (h : Full w v zs) : ∃ ao, v = .slice ao zs.length zs.length ∧
    (0 < zs.length → ∃ g, ao = some ⟨g, 0, none⟩ ∧ g < w.heap.size ∧ ∀ j, j < zs.length → w.cell? ⟨g, j, none⟩ = some (.int .u8 (zs.getD j 0))) := by
  rcases h with ⟨rfl, rfl⟩ | ⟨g, rfl, hg, hc⟩
  · exact ⟨none, rfl, fun h => by simp at h⟩
  · exact ⟨_, rfl, fun _ => ⟨g, rfl, hg, fun j hj => hc j _ (cz_get zs j hj)⟩⟩

theorem clone6' (a : Option Addr) (n c : Nat) (zs : List Int) (w : World) (hl : zs.length = n) (hn : n ≤ 1048576) (hnil : a = none → n = 0 ∧ c = 0) (hc : ∀ x, a = some x → ∀ j, j < n → w.cell? (x.add j) = some (.int .u8 (zs.getD j 0))) :
    Calls Tryd.prog 6 #[.slice a n c] w fun e w' => ∃ ao, e = .returned (.slice ao n n) ∧ Full w' (.slice ao n n) zs ∧ (0 < n → ∃ g, ao = some ⟨g, 0, none⟩ ∧ g < w'.heap.size ∧ ∀ j, j < n → w'.cell? ⟨g, j, none⟩ = some (.int .u8 (zs.getD j 0))) ∧ Below w.heap.size w w' := by
  refine (clone6 a n c zs w hl hn hnil hc).mono ?_
  rintro e w' ⟨v, rfl, hF, hb⟩
  obtain ⟨ao, rfl, hs⟩ := hF.shape
  rw [hl] at hF hs
  exact ⟨ao, by rw [hl], hF, hs, hb⟩

/-- what AppendPPM's receiver stands on -/
structure MapAt (w : World) (aw : Option Addr) (nw gh n : Nat) (wat : List Bool) (xs ys : List Int) : Prop where
  wa : HasB w aw nw wat
  pt : Pts w gh n n xs ys
  lt : gh < w.heap.size
  tab : Lib.TabBelow Tryd.prog w.heap.size w powName .u64 Lib.pow10Tab

theorem MapAt.below {w w' : World} {aw : Option Addr} {nw gh n : Nat} {wat : List Bool} {xs ys : List Int} (h : MapAt w aw nw gh n wat xs ys) (hb : Below w.heap.size w w') : MapAt w' aw nw gh n wat xs ys :=
  ⟨h.wa.below hb, h.pt.other (hb.block _ h.lt), Nat.lt_of_lt_of_le h.lt hb.size, fun w'' h'' => h.tab w'' (hb.trans (h''.mono hb.size))⟩

/-- the text that AppendPPM writes -/
def text (W H : Int) (nw n : Nat) (wat : List Bool) (xs ys : List Int) : List Int := hdr W H ++ body W (pts xs ys n) wat nw

theorem text_pos (W H : Int) (nw n : Nat) (wat : List Bool) (xs ys : List Int) : 0 < (text W H nw n wat xs ys).length := by
  simp [text, hdr]
theorem text_le (W H : Int) (hW : InI W) (hH : InI H) (nw n : Nat) (wat : List Bool) (xs ys : List Int) : (text W H nw n wat xs ys).length ≤ 51 + 12 * nw := by
  have := hdr_le W H hW hH
  have := body_le W (pts xs ys n) wat nw
  simp [text]; omega

theorem ppmM (W H : Int) (hW : InI W) (hH : InI H) (aw : Option Addr) (nw cw gh n : Nat) (hn : nw ≤ 65536) (hnh : n ≤ 65536) (bv : Value) (zs : List Int) (hz : zs.length ≤ 65536) (xs ys : List Int) (wat : List Bool) (w : World)
    (hF : Full w bv zs) (M : MapAt w aw nw gh n wat xs ys) (hxi : ∀ j, j < n → InI (xs.getD j 0)) (hyi : ∀ j, j < n → InI (ys.getD j 0)) (hWp : 0 < nw → 0 < W) :
    Calls Tryd.prog 9 #[.agg #[.int .i64 W, .int .i64 H, .slice aw nw cw, .slice (some ⟨gh, 0, none⟩) n n], bv] w fun e w' =>
      ∃ (T : List Int) (g cap : Nat), e = .returned (.slice (some ⟨g, 0, none⟩) T.length cap) ∧ Hid (T = zs ++ text W H nw n wat xs ys) ∧ w.heap.size ≤ g ∧ g < w'.heap.size ∧ (∀ j, j < T.length → w'.cell? ⟨g, j, none⟩ = some (.int .u8 (T.getD j 0))) ∧ Below w.heap.size w w' := by
  refine (ppm9 appendIntC W H hW hH aw nw cw gh n hn hnh bv zs hz xs ys wat w hF M.pt M.lt hxi hyi M.wa hWp M.tab).mono ?_
  rintro e w' ⟨v', rfl, ho, hb⟩
  have e1 : zs ++ hdr W H ++ body W (pts xs ys n) wat nw = zs ++ text W H nw n wat xs ys := by simp [text]
  rw [e1] at ho
  have hp := text_pos W H nw n wat xs ys
  have ho' := ho
  rcases ho.2 with ⟨_, h0⟩ | ⟨g, cap, cur, rfl, hg, hh, h1, h2, h3, h4⟩
  · rw [List.length_append] at h0; omega
  · refine ⟨zs ++ text W H nw n wat xs ys, g, cap, rfl, rfl, hg, (Array.getElem?_eq_some_iff.1 hh).1, fun j hj => ?_, hb⟩
    rw [ho'.cellAt j (by omega)]
    exact cz_get _ j hj

theorem scan_take {l : List Int} {k : Nat} (h : k < l.length) (s : Nat × Nat) : scan s (l.take (k + 1)) = stp (scan s (l.take k)) (l.getD k 0) := by
  rw [List.take_succ_eq_append_getElem h, scan_append]
  simp [scan, h]
theorem stp_nl (s : Nat × Nat) {c : Int} (h : c = 10) : stp s c = (s.1 + 1, 0) := by simp [stp, h]
theorem stp_bl (s : Nat × Nat) {c : Int} (h : c = 32) : stp s c = (s.1 + 1, s.2 + 1) := by simp [stp, h]
theorem stp_pl (s : Nat × Nat) {c : Int} (h : ¬ c = 10) (h2 : ¬ c = 32) : stp s c = (s.1, s.2 + 1) := by simp [stp, h, h2]
theorem scan_fst_le (l : List Int) : ∀ s : Nat × Nat, (scan s l).1 ≤ s.1 + l.length := by
  induction l with
  | nil => intro s; simp [scan]
  | cons c l ih =>
    intro s
    have h1 := ih (stp s c)
    have h2 : (stp s c).1 ≤ s.1 + 1 := by unfold stp; split <;> (try split) <;> simp
    have e : scan s (c :: l) = scan (stp s c) l := rfl
    rw [e]; simp; omega
/-- what the scan of the text's first k characters comes to -/
theorem scan_facts {T : List Int} {b m : Nat} (h : Runs (0, 0) T (m, b)) (k : Nat) (hk : k ≤ T.length) : (scan (0, 0) (T.take k)).2 ≤ 70 ∧ (scan (0, 0) (T.take k)).1 ≤ T.length :=
  ⟨h.2 k hk, by have := scan_fst_le (T.take k) (0, 0); simp at this; omega⟩
theorem getD_append_right (a b : List Int) (j : Nat) : (a ++ b).getD (a.length + j) 0 = b.getD j 0 := by
  simp [List.getElem?_append_right]

/-- the tests at the law's head, all passed -/
def Good (W : Int) (nw nx ny nb : Nat) : Prop := nb ≤ 65536 ∧ nw ≤ 65536 ∧ nx ≤ 65536 ∧ ny ≤ 65536 ∧ nb + nw + 8 * nx + 8 * ny ≤ 1048576 ∧ nx = ny ∧ (0 < nw → 0 < W)

set_option maxHeartbeats 3200000 in
theorem short4_bad (W H : Int) (aw : Option Addr) (nw cw : Nat) (ax : Option Addr) (nx cx : Nat) (ay : Option Addr) (ny cy : Nat) (ab : Option Addr) (nb cb : Nat) (w : World) (hG : ¬ Good W nw nx ny nb) :
    Calls Tryd.prog 4 #[.int .i64 W, .int .i64 H, .slice aw nw cw, .slice ax nx cx, .slice ay ny cy, .slice ab nb cb] w fun e w' => e = .returned (.bool true) ∧ Below w.heap.size w w' := by
  go_enter Tryd.func4, Tryd.ntmps4
  go_wp2_with (go_at_call 11; refine (zz11 W H aw ax ay ab nw cw nx cx ny cy nb cb w).mono ?_; rintro e w' ⟨r, rfl, rfl, hr⟩; refine Hid.out ?_)
  refine Lib.hid ?_
  cases r
  · go_wp2
    go_ret
    exact ⟨rfl, Below.refl _ _⟩
  have hsum := hr rfl
  clear hr
  go_wp2_with fail
  all_goals first
    | (go_ret; exact ⟨rfl, Below.refl _ _⟩)
    | (have hne : ((nx : Int) != (ny : Int)) = false := by assumption
       have hxy : nx = ny := by simp at hne; omega
       exact absurd ⟨by omega, by omega, by omega, by omega, by omega, hxy, fun _ => by omega⟩ hG)

set_option maxHeartbeats 3200000 in
theorem short4_good (W H : Int) (aw : Option Addr) (nw cw : Nat) (ax : Option Addr) (n cx : Nat) (ay : Option Addr) (cy : Nat) (ab : Option Addr) (nb cb : Nat) (wat : List Bool) (xs ys zs : List Int) (w : World)
    (A : Args w W H aw nw ax n ay n ab nb cb wat xs ys zs) (h1 : nb ≤ 65536) (h2 : nw ≤ 65536) (h3 : n ≤ 65536) (h4 : nb + nw + 8 * n + 8 * n ≤ 1048576) (h5 : 0 < nw → 0 < W) :
    Calls Tryd.prog 4 #[.int .i64 W, .int .i64 H, .slice aw nw cw, .slice ax n cx, .slice ay n cy, .slice ab nb cb] w fun e w' => e = .returned (.bool true) ∧ Below w.heap.size w w' := by
  rcases Nat.eq_zero_or_pos nw with rfl | h0
  · go_enter Tryd.func4, Tryd.ntmps4
    go_wp2_with (go_at_call 11; refine (zz11 W H aw ax ay ab 0 cw n cx n cy nb cb w).mono ?_; rintro e w' ⟨r, rfl, rfl, hr⟩; refine Hid.out ?_)
    refine Lib.hid ?_
    cases r
    · go_wp2
      go_ret
      exact ⟨rfl, Below.refl _ _⟩
    clear hr
    go_wp2_with (go_at_call 6; refine (clone6' ab nb cb zs w A.bl (by omega) A.bn A.bc).mono ?_; rintro e w1 ⟨ao, rfl, F1, hb1, b1⟩; refine Hid.out ?_)
    refine Lib.hid ?_
    go_wp2_with (go_at_call 7; refine (build7 W H aw 0 cw ax ay cx cy n xs ys w1 (by omega) (A.hx.below b1) (A.hy.below b1)).mono ?_; rintro e w2 ⟨rfl, P2, b2⟩; refine Hid.out ?_)
    refine Lib.hid ?_
    have hz2 : w1.heap.size + 1 < w2.heap.size := by
      obtain ⟨cur, hh, _⟩ := P2
      exact (Array.getElem?_eq_some_iff.1 hh).1
    have b12 := b1.trans (b2.mono b1.size)
    have M2 : MapAt w2 aw 0 (w1.heap.size + 1) n wat xs ys := ⟨A.wa.below b12, P2, hz2, fun w'' h'' => A.tab w'' (b12.trans (h''.mono b12.size))⟩
    obtain ⟨bx, hbx⟩ : ∃ o, o = Obj.cells #[.int .i64 W, .int .i64 H, .slice aw 0 cw, .slice (some ⟨w1.heap.size + 1, 0, none⟩) n n] 29 := ⟨_, rfl⟩
    have b23 : Below w2.heap.size w2 (w2.alloc bx) := (Below.refl _ _).alloc (Nat.le_refl _) _
    have M3 := M2.below b23
    have F3 := (F1.below b2).below b23
    have b13 := b12.trans (b23.mono b12.size)
    rw [hbx] at M3 F3 b23 b13
    have HA := Lib.hid A
    clear A P2 M2 F1 hbx
    go_wp2_with (go_at_call 9; refine (ppmM W H HA.out.hW HA.out.hH aw 0 cw (w1.heap.size + 1) n (by omega) h3 (.slice none 0 0) [] (by simp) xs ys wat _ (.inl ⟨rfl, rfl⟩) M3 HA.out.ix HA.out.iy (by omega)).mono ?_; rintro e w4 ⟨T1, g1, cap1, rfl, HT1, hg1, hl1, hc1, b4⟩; refine Hid.out ?_)
    refine Lib.hid ?_
    have M4 := M3.below b4
    have F4 := F3.below b4
    have hbox : w4.heap[w2.heap.size]? = some (.cells #[.int .i64 W, .int .i64 H, .slice aw 0 cw, .slice (some ⟨w1.heap.size + 1, 0, none⟩) n n] 29) := (b4.block _ (by simp)).trans (heap_alloc_new _ _)
    have q0 : w4.cell? ⟨w2.heap.size, 0, none⟩ = some (.int .i64 W) := by simp [World.cell?, hbox]
    have q1 : w4.cell? ⟨w2.heap.size, 1, none⟩ = some (.int .i64 H) := by simp [World.cell?, hbox]
    have q2 : w4.cell? ⟨w2.heap.size, 2, none⟩ = some (.slice aw 0 cw) := by simp [World.cell?, hbox]
    have q3 : w4.cell? ⟨w2.heap.size, 3, none⟩ = some (.slice (some ⟨w1.heap.size + 1, 0, none⟩) n n) := by simp [World.cell?, hbox]
    have b14 := b13.trans (b4.mono b13.size)
    have hs34 := b4.size
    clear M3 F3 b23 hbox
    go_wp2_with (go_at_call 9; refine (ppmM W H HA.out.hW HA.out.hH aw 0 cw (w1.heap.size + 1) n (by omega) h3 (.slice ao nb nb) zs (by have := HA.out.bl; omega) xs ys wat w4 F4 M4 HA.out.ix HA.out.iy (by omega)).mono ?_; rintro e w5 ⟨T2, g2, cap2, rfl, HT2, hg2, hl2, hc2, b5⟩; refine Hid.out ?_)
    refine Lib.hid ?_
    clear q0 q1 q2 q3 M4 F4
    have b15 := b14.trans (b5.mono b14.size)
    -- what the loops read
    have hTl : T2.length = nb + T1.length := by rw [HT2.out, HT1.out]; simp [HA.out.bl]
    have hT1le : T1.length ≤ 2000000 := by rw [HT1.out]; have := text_le W H HA.out.hW HA.out.hH 0 n wat xs ys; simp; omega
    have hA1 : ∀ j, j < nb → T2.getD j 0 = zs.getD j 0 := fun j hj => by rw [HT2.out]; have := HA.out.bl; simp [List.getElem?_append_left (show j < zs.length by omega)]
    have hA2 : ∀ j, j < T1.length → T2.getD (nb + j) 0 = T1.getD j 0 := fun j hj => by rw [HT2.out, HT1.out, ← HA.out.bl, getD_append_right]; rfl
    have hneq : ((T2.length : Int) != (nb : Int) + (T1.length : Int)) = false := by simp; omega
    have hcb : 0 < nb → ∃ g, ao = some ⟨g, 0, none⟩ ∧ g < w5.heap.size ∧ ∀ j, j < nb → w5.cell? ⟨g, j, none⟩ = some (.int .u8 (zs.getD j 0)) := fun hp => by
      obtain ⟨g, e, hg, hc⟩ := hb1 hp
      have b25 : Below w1.heap.size w1 w5 := ((b2.trans ((Below.refl w2.heap.size w2).alloc (Nat.le_refl _) _ |>.mono b2.size)).trans (b4.mono (by have := b2.size; simp; omega))).trans (b5.mono (by have := b2.size; simp at hs34; omega))
      exact ⟨g, e, Nat.lt_of_lt_of_le hg b25.size, fun j hj => (b25.cell (p := ⟨g, j, none⟩) hg).trans (hc j hj)⟩
    have hc1' : ∀ j, j < T1.length → w5.cell? ⟨g1, j, none⟩ = some (.int .u8 (T1.getD j 0)) := fun j hj => (b5.cell (p := ⟨g1, j, none⟩) hl1).trans (hc1 j hj)
    have hl1' : g1 < w5.heap.size := Nat.lt_of_lt_of_le hl1 b5.size
    have HTL := Lib.hid hTl
    have hTle : nb + T1.length ≤ T2.length := by omega
    obtain ⟨bl, hrun⟩ := text_runs W H HA.out.hW HA.out.hH (pts xs ys n) wat 0 (by omega)
    have hrun' : Runs (0, 0) T1 (4 + 3 * 0, bl) := by rw [HT1.out]; exact hrun
    have HC1 := Lib.hid hc1'
    have HC2 := Lib.hid hc2
    have HCB := Lib.hid hcb
    have HA1 := Lib.hid hA1
    have HA2 := Lib.hid hA2
    have HR := Lib.hid hrun'
    have HB := Lib.hid b15
    clear hTl hb1 hc1 hl1 b1 b2 b12 b13 b14 b4 b5 hs34 hg1 hg2 hz2 hc1' hc2 hcb hA1 hA2 b15 hrun hrun' HT1 HT2 HTL
    go_wp2
    clear hneq
    go_loopw [16] (fun i wr => ∃ k : Nat, k ≤ nb ∧ i = .int .i64 k ∧ Below w5.heap.size w5 wr) (fun i _ => nb - (intOf i).toNat)
    case atStart => exact ⟨0, Nat.zero_le _, rfl, Below.refl _ _⟩
    case round =>
      obtain ⟨k, hk, rfl, hnx⟩ := hrel
      by_cases hlt : k < nb
      · obtain ⟨g, hae, hgl, hcg⟩ := HCB.out (by omega)
        subst hae
        have e1 : wr.cell? ⟨g, k, none⟩ = some (.int .u8 (zs.getD k 0)) := (hnx.cell (by exact hgl)).trans (hcg k hlt)
        have e2 : wr.cell? ⟨g2, k, none⟩ = some (.int .u8 (zs.getD k 0)) := (hnx.cell (by exact hl2)).trans (by rw [HC2.out k (by omega), HA1.out k hlt])
        generalize zs.getD k 0 = c at e1 e2
        have hkk : k < T2.length := by omega
        clear hcg
        go_wp2
        go_quiet (fail)
        go_wp2
        go_roundw
        case rel => exact ⟨k + 1, by omega, by go_num, hnx.trans ⟨rfl, rfl, rfl, Nat.le_refl _, fun _ _ => rfl⟩⟩
        case measure => simp [intOf]; omega
      · go_wp2
        clear hk hlt
        go_loopw [17] (fun i wr => ∃ k : Nat, k ≤ T1.length ∧ i = .int .i64 k ∧ Below w5.heap.size w5 wr) (fun i _ => T1.length - (intOf i).toNat)
        case atStart => exact ⟨0, Nat.zero_le _, rfl, hnx⟩
        case round =>
          obtain ⟨k2, hk, rfl, hnx2⟩ := hrel
          by_cases hlt : k2 < T1.length
          · have e1 : wr.cell? ⟨g1, k2, none⟩ = some (.int .u8 (T1.getD k2 0)) := (hnx2.cell (by exact hl1')).trans (HC1.out k2 hlt)
            have e2 : wr.cell? ⟨g2, nb + k2, none⟩ = some (.int .u8 (T1.getD k2 0)) := (hnx2.cell (by exact hl2)).trans (by rw [HC2.out (nb + k2) (by omega), HA2.out k2 hlt])
            generalize T1.getD k2 0 = c at e1 e2
            have hkk : (nb : Int) + (k2 : Int) < (T2.length : Int) := by omega
            go_wp2
            go_quiet (fail)
            go_wp2
            go_roundw
            case rel => exact ⟨k2 + 1, by omega, by go_num, hnx2.trans ⟨rfl, rfl, rfl, Nat.le_refl _, fun _ _ => rfl⟩⟩
            case measure => simp [intOf]; omega
          · go_wp2
            clear hk hlt hnx
            go_loop [18, 19, 20] (fun s l i => ∃ k sv lv : Nat, k ≤ T1.length ∧ i = .int .i64 k ∧ s = .int .i64 sv ∧ l = .int .i64 lv ∧ scan (0, 0) (T1.take k) = (sv, lv)) (fun _ _ i => T1.length - (intOf i).toNat)
            case atStart => exact ⟨0, 0, 0, Nat.zero_le _, rfl, rfl, rfl, rfl⟩
            case round =>
              obtain ⟨k3, sv, lv, hk, rfl, rfl, rfl, hsc⟩ := hrel
              have hf := scan_facts HR.out k3 hk
              rw [hsc] at hf
              have hsv : sv ≤ T1.length := hf.2
              have hlv : lv ≤ 70 := hf.1
              have HSC := Lib.hid hsc
              clear hf hsc
              by_cases hlt : k3 < T1.length
              · have e1 : wr.cell? ⟨g1, k3, none⟩ = some (.int .u8 (T1.getD k3 0)) := (hnx2.cell (by exact hl1')).trans (HC1.out k3 hlt)
                have hst := scan_take hlt (0, 0)
                rw [HSC.out] at hst
                have hnl := (scan_facts HR.out (k3 + 1) hlt).1
                rw [hst] at hnl
                generalize T1.getD k3 0 = c at e1 hst hnl
                have HST := Lib.hid hst
                clear hst
                by_cases hc10 : c = 10
                · have t1 : (c == 10) = true := by simp [hc10]
                  rw [stp_nl _ hc10] at hnl
                  have HC10 := Lib.hid hc10
                  clear hc10 hnl
                  go_wp2
                  go_round
                  case rel => exact ⟨k3 + 1, sv + 1, 0, by omega, by go_num, by go_num, by go_num, by rw [HST.out, stp_nl _ HC10.out]⟩
                  case measure => simp [intOf]; omega
                · have t1 : (c == 10) = false := by simp [hc10]
                  by_cases hc32 : c = 32
                  · have t2 : (c == 32) = true := by simp [hc32]
                    rw [stp_bl _ hc32] at hnl
                    have hlv2 : lv + 1 ≤ 70 := hnl
                    have HC32 := Lib.hid hc32
                    clear hc32 hc10 hnl
                    go_wp2
                    go_round
                    case rel => exact ⟨k3 + 1, sv + 1, lv + 1, by omega, by go_num, by go_num, by go_num, by rw [HST.out, stp_bl _ HC32.out]⟩
                    case measure => simp [intOf]; omega
                  · have t2 : (c == 32) = false := by simp [hc32]
                    rw [stp_pl _ hc10 hc32] at hnl
                    have hlv2 : lv + 1 ≤ 70 := hnl
                    have HN : Hid (¬ c = 10 ∧ ¬ c = 32) := ⟨hc10, hc32⟩
                    clear hc32 hc10 hnl
                    go_wp2
                    go_round
                    case rel => exact ⟨k3 + 1, sv, lv + 1, by omega, by go_num, by go_num, by go_num, by rw [HST.out, stp_pl _ HN.out.1 HN.out.2]⟩
                    case measure => simp [intOf]; omega
              · have hk3 : k3 = T1.length := by omega
                have hfin := HSC.out
                rw [hk3, List.take_length, HR.out.1] at hfin
                have hws : sv = 4 + 3 * 0 := (Prod.mk.inj hfin).1.symm
                have hwe : ((sv : Int) == 4) = true := by simp; omega
                clear hk3 hfin hws
                go_wp2
                go_ret
                exact ⟨rfl, HB.out.trans (hnx2.mono HB.out.size)⟩
  · go_enter Tryd.func4, Tryd.ntmps4
    go_wp2_with (go_at_call 11; refine (zz11 W H aw ax ay ab nw cw n cx n cy nb cb w).mono ?_; rintro e w' ⟨r, rfl, rfl, hr⟩; refine Hid.out ?_)
    refine Lib.hid ?_
    cases r
    · go_wp2
      go_ret
      exact ⟨rfl, Below.refl _ _⟩
    clear hr
    go_wp2_with (go_at_call 6; refine (clone6' ab nb cb zs w A.bl (by omega) A.bn A.bc).mono ?_; rintro e w1 ⟨ao, rfl, F1, hb1, b1⟩; refine Hid.out ?_)
    refine Lib.hid ?_
    go_wp2_with (go_at_call 7; refine (build7 W H aw nw cw ax ay cx cy n xs ys w1 (by omega) (A.hx.below b1) (A.hy.below b1)).mono ?_; rintro e w2 ⟨rfl, P2, b2⟩; refine Hid.out ?_)
    refine Lib.hid ?_
    have hz2 : w1.heap.size + 1 < w2.heap.size := by
      obtain ⟨cur, hh, _⟩ := P2
      exact (Array.getElem?_eq_some_iff.1 hh).1
    have b12 := b1.trans (b2.mono b1.size)
    have M2 : MapAt w2 aw nw (w1.heap.size + 1) n wat xs ys := ⟨A.wa.below b12, P2, hz2, fun w'' h'' => A.tab w'' (b12.trans (h''.mono b12.size))⟩
    obtain ⟨bx, hbx⟩ : ∃ o, o = Obj.cells #[.int .i64 W, .int .i64 H, .slice aw nw cw, .slice (some ⟨w1.heap.size + 1, 0, none⟩) n n] 29 := ⟨_, rfl⟩
    have b23 : Below w2.heap.size w2 (w2.alloc bx) := (Below.refl _ _).alloc (Nat.le_refl _) _
    have M3 := M2.below b23
    have F3 := (F1.below b2).below b23
    have b13 := b12.trans (b23.mono b12.size)
    rw [hbx] at M3 F3 b23 b13
    have HA := Lib.hid A
    clear A P2 M2 F1 hbx
    go_wp2_with (go_at_call 9; refine (ppmM W H HA.out.hW HA.out.hH aw nw cw (w1.heap.size + 1) n (by omega) h3 (.slice none 0 0) [] (by simp) xs ys wat _ (.inl ⟨rfl, rfl⟩) M3 HA.out.ix HA.out.iy (by omega)).mono ?_; rintro e w4 ⟨T1, g1, cap1, rfl, HT1, hg1, hl1, hc1, b4⟩; refine Hid.out ?_)
    refine Lib.hid ?_
    have M4 := M3.below b4
    have F4 := F3.below b4
    have hbox : w4.heap[w2.heap.size]? = some (.cells #[.int .i64 W, .int .i64 H, .slice aw nw cw, .slice (some ⟨w1.heap.size + 1, 0, none⟩) n n] 29) := (b4.block _ (by simp)).trans (heap_alloc_new _ _)
    have q0 : w4.cell? ⟨w2.heap.size, 0, none⟩ = some (.int .i64 W) := by simp [World.cell?, hbox]
    have q1 : w4.cell? ⟨w2.heap.size, 1, none⟩ = some (.int .i64 H) := by simp [World.cell?, hbox]
    have q2 : w4.cell? ⟨w2.heap.size, 2, none⟩ = some (.slice aw nw cw) := by simp [World.cell?, hbox]
    have q3 : w4.cell? ⟨w2.heap.size, 3, none⟩ = some (.slice (some ⟨w1.heap.size + 1, 0, none⟩) n n) := by simp [World.cell?, hbox]
    have b14 := b13.trans (b4.mono b13.size)
    have hs34 := b4.size
    clear M3 F3 b23 hbox
    go_wp2_with (go_at_call 9; refine (ppmM W H HA.out.hW HA.out.hH aw nw cw (w1.heap.size + 1) n (by omega) h3 (.slice ao nb nb) zs (by have := HA.out.bl; omega) xs ys wat w4 F4 M4 HA.out.ix HA.out.iy (by omega)).mono ?_; rintro e w5 ⟨T2, g2, cap2, rfl, HT2, hg2, hl2, hc2, b5⟩; refine Hid.out ?_)
    refine Lib.hid ?_
    clear q0 q1 q2 q3 M4 F4
    have b15 := b14.trans (b5.mono b14.size)
    -- what the loops read
    have hTl : T2.length = nb + T1.length := by rw [HT2.out, HT1.out]; simp [HA.out.bl]
    have hT1le : T1.length ≤ 2000000 := by rw [HT1.out]; have := text_le W H HA.out.hW HA.out.hH nw n wat xs ys; simp; omega
    have hA1 : ∀ j, j < nb → T2.getD j 0 = zs.getD j 0 := fun j hj => by rw [HT2.out]; have := HA.out.bl; simp [List.getElem?_append_left (show j < zs.length by omega)]
    have hA2 : ∀ j, j < T1.length → T2.getD (nb + j) 0 = T1.getD j 0 := fun j hj => by rw [HT2.out, HT1.out, ← HA.out.bl, getD_append_right]; rfl
    have hneq : ((T2.length : Int) != (nb : Int) + (T1.length : Int)) = false := by simp; omega
    have hcb : 0 < nb → ∃ g, ao = some ⟨g, 0, none⟩ ∧ g < w5.heap.size ∧ ∀ j, j < nb → w5.cell? ⟨g, j, none⟩ = some (.int .u8 (zs.getD j 0)) := fun hp => by
      obtain ⟨g, e, hg, hc⟩ := hb1 hp
      have b25 : Below w1.heap.size w1 w5 := ((b2.trans ((Below.refl w2.heap.size w2).alloc (Nat.le_refl _) _ |>.mono b2.size)).trans (b4.mono (by have := b2.size; simp; omega))).trans (b5.mono (by have := b2.size; simp at hs34; omega))
      exact ⟨g, e, Nat.lt_of_lt_of_le hg b25.size, fun j hj => (b25.cell (p := ⟨g, j, none⟩) hg).trans (hc j hj)⟩
    have hc1' : ∀ j, j < T1.length → w5.cell? ⟨g1, j, none⟩ = some (.int .u8 (T1.getD j 0)) := fun j hj => (b5.cell (p := ⟨g1, j, none⟩) hl1).trans (hc1 j hj)
    have hl1' : g1 < w5.heap.size := Nat.lt_of_lt_of_le hl1 b5.size
    have HTL := Lib.hid hTl
    have hTle : nb + T1.length ≤ T2.length := by omega
    obtain ⟨bl, hrun⟩ := text_runs W H HA.out.hW HA.out.hH (pts xs ys n) wat nw (by omega)
    have hrun' : Runs (0, 0) T1 (4 + 3 * nw, bl) := by rw [HT1.out]; exact hrun
    have HC1 := Lib.hid hc1'
    have HC2 := Lib.hid hc2
    have HCB := Lib.hid hcb
    have HA1 := Lib.hid hA1
    have HA2 := Lib.hid hA2
    have HR := Lib.hid hrun'
    have HB := Lib.hid b15
    clear hTl hb1 hc1 hl1 b1 b2 b12 b13 b14 b4 b5 hs34 hg1 hg2 hz2 hc1' hc2 hcb hA1 hA2 b15 hrun hrun' HT1 HT2 HTL
    go_wp2
    clear hneq
    go_loopw [16] (fun i wr => ∃ k : Nat, k ≤ nb ∧ i = .int .i64 k ∧ Below w5.heap.size w5 wr) (fun i _ => nb - (intOf i).toNat)
    case atStart => exact ⟨0, Nat.zero_le _, rfl, Below.refl _ _⟩
    case round =>
      obtain ⟨k, hk, rfl, hnx⟩ := hrel
      by_cases hlt : k < nb
      · obtain ⟨g, hae, hgl, hcg⟩ := HCB.out (by omega)
        subst hae
        have e1 : wr.cell? ⟨g, k, none⟩ = some (.int .u8 (zs.getD k 0)) := (hnx.cell (by exact hgl)).trans (hcg k hlt)
        have e2 : wr.cell? ⟨g2, k, none⟩ = some (.int .u8 (zs.getD k 0)) := (hnx.cell (by exact hl2)).trans (by rw [HC2.out k (by omega), HA1.out k hlt])
        generalize zs.getD k 0 = c at e1 e2
        have hkk : k < T2.length := by omega
        clear hcg
        go_wp2
        go_quiet (fail)
        go_wp2
        go_roundw
        case rel => exact ⟨k + 1, by omega, by go_num, hnx.trans ⟨rfl, rfl, rfl, Nat.le_refl _, fun _ _ => rfl⟩⟩
        case measure => simp [intOf]; omega
      · go_wp2
        clear hk hlt
        go_loopw [17] (fun i wr => ∃ k : Nat, k ≤ T1.length ∧ i = .int .i64 k ∧ Below w5.heap.size w5 wr) (fun i _ => T1.length - (intOf i).toNat)
        case atStart => exact ⟨0, Nat.zero_le _, rfl, hnx⟩
        case round =>
          obtain ⟨k2, hk, rfl, hnx2⟩ := hrel
          by_cases hlt : k2 < T1.length
          · have e1 : wr.cell? ⟨g1, k2, none⟩ = some (.int .u8 (T1.getD k2 0)) := (hnx2.cell (by exact hl1')).trans (HC1.out k2 hlt)
            have e2 : wr.cell? ⟨g2, nb + k2, none⟩ = some (.int .u8 (T1.getD k2 0)) := (hnx2.cell (by exact hl2)).trans (by rw [HC2.out (nb + k2) (by omega), HA2.out k2 hlt])
            generalize T1.getD k2 0 = c at e1 e2
            have hkk : (nb : Int) + (k2 : Int) < (T2.length : Int) := by omega
            go_wp2
            go_quiet (fail)
            go_wp2
            go_roundw
            case rel => exact ⟨k2 + 1, by omega, by go_num, hnx2.trans ⟨rfl, rfl, rfl, Nat.le_refl _, fun _ _ => rfl⟩⟩
            case measure => simp [intOf]; omega
          · go_wp2
            clear hk hlt hnx
            go_loop [18, 19, 20] (fun s l i => ∃ k sv lv : Nat, k ≤ T1.length ∧ i = .int .i64 k ∧ s = .int .i64 sv ∧ l = .int .i64 lv ∧ scan (0, 0) (T1.take k) = (sv, lv)) (fun _ _ i => T1.length - (intOf i).toNat)
            case atStart => exact ⟨0, 0, 0, Nat.zero_le _, rfl, rfl, rfl, rfl⟩
            case round =>
              obtain ⟨k3, sv, lv, hk, rfl, rfl, rfl, hsc⟩ := hrel
              have hf := scan_facts HR.out k3 hk
              rw [hsc] at hf
              have hsv : sv ≤ T1.length := hf.2
              have hlv : lv ≤ 70 := hf.1
              have HSC := Lib.hid hsc
              clear hf hsc
              by_cases hlt : k3 < T1.length
              · have e1 : wr.cell? ⟨g1, k3, none⟩ = some (.int .u8 (T1.getD k3 0)) := (hnx2.cell (by exact hl1')).trans (HC1.out k3 hlt)
                have hst := scan_take hlt (0, 0)
                rw [HSC.out] at hst
                have hnl := (scan_facts HR.out (k3 + 1) hlt).1
                rw [hst] at hnl
                generalize T1.getD k3 0 = c at e1 hst hnl
                have HST := Lib.hid hst
                clear hst
                by_cases hc10 : c = 10
                · have t1 : (c == 10) = true := by simp [hc10]
                  rw [stp_nl _ hc10] at hnl
                  have HC10 := Lib.hid hc10
                  clear hc10 hnl
                  go_wp2
                  go_round
                  case rel => exact ⟨k3 + 1, sv + 1, 0, by omega, by go_num, by go_num, by go_num, by rw [HST.out, stp_nl _ HC10.out]⟩
                  case measure => simp [intOf]; omega
                · have t1 : (c == 10) = false := by simp [hc10]
                  by_cases hc32 : c = 32
                  · have t2 : (c == 32) = true := by simp [hc32]
                    rw [stp_bl _ hc32] at hnl
                    have hlv2 : lv + 1 ≤ 70 := hnl
                    have HC32 := Lib.hid hc32
                    clear hc32 hc10 hnl
                    go_wp2
                    go_round
                    case rel => exact ⟨k3 + 1, sv + 1, lv + 1, by omega, by go_num, by go_num, by go_num, by rw [HST.out, stp_bl _ HC32.out]⟩
                    case measure => simp [intOf]; omega
                  · have t2 : (c == 32) = false := by simp [hc32]
                    rw [stp_pl _ hc10 hc32] at hnl
                    have hlv2 : lv + 1 ≤ 70 := hnl
                    have HN : Hid (¬ c = 10 ∧ ¬ c = 32) := ⟨hc10, hc32⟩
                    clear hc32 hc10 hnl
                    go_wp2
                    go_round
                    case rel => exact ⟨k3 + 1, sv, lv + 1, by omega, by go_num, by go_num, by go_num, by rw [HST.out, stp_pl _ HN.out.1 HN.out.2]⟩
                    case measure => simp [intOf]; omega
              · have hk3 : k3 = T1.length := by omega
                have hfin := HSC.out
                rw [hk3, List.take_length, HR.out.1] at hfin
                have hws : sv = 4 + 3 * nw := (Prod.mk.inj hfin).1.symm
                have hwe : ((sv : Int) == 4 + 3 * (nw : Int)) = true := by simp; omega
                clear hk3 hfin hws
                go_wp2
                go_ret
                exact ⟨rfl, HB.out.trans (hnx2.mono HB.out.size)⟩

/-- THE WALK OF THE LAW -/
theorem short4 (W H : Int) (aw : Option Addr) (nw cw : Nat) (ax : Option Addr) (nx cx : Nat) (ay : Option Addr) (ny cy : Nat) (ab : Option Addr) (nb cb : Nat) (wat : List Bool) (xs ys zs : List Int) (w : World)
    (A : Args w W H aw nw ax nx ay ny ab nb cb wat xs ys zs) :
    Calls Tryd.prog 4 #[.int .i64 W, .int .i64 H, .slice aw nw cw, .slice ax nx cx, .slice ay ny cy, .slice ab nb cb] w fun e w' => e = .returned (.bool true) ∧ Below w.heap.size w w' := by
  by_cases hG : Good W nw nx ny nb
  · obtain ⟨h1, h2, h3, h4, h5, rfl, h7⟩ := hG
    exact short4_good W H aw nw cw ax nx cx ay cy ab nb cb wat xs ys zs w A h1 h2 h3 h5 h7
  · exact short4_bad W H aw nw cw ax nx cx ay ny cy ab nb cb w hG

end Go.Proofs.Qxb6630465aDoor
