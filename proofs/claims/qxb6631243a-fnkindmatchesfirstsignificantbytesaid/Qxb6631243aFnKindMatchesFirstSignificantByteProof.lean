/-
  FnKindMatchesFirstSignificantByte: the walk out of the callees' contracts; the row's step as the given shell has it.
-/
import Derived.Test.Qxb6631243aRows
import Derived.Test.Qxb6631243aCopy
import Derived.WalkKit
import Derived.ProofKit
import Derived.OpenShut
import Derived.ShutString
import Derived.ChangeOld
import Derived.Below
namespace Go.Proofs.Qxb6631243a.fnKindMatchesFirstSignificantByte
open Go.ChangeShapes Go.WideShapes Go.ChangeAt Go.RowKit
open Go.ChangeMaps (open_string shut_string)
set_option linter.unusedVariables false

theorem own : ownKnob Try.prog.godebug = none := by kernel_rfl
theorem laidOut : laidOutB Try.prog = true := by kernel_rfl

/-- WHAT THE WALK IS TOLD OF A SLICE OF INTEGERS THAT CAME IN: it is nil; or it leads to a row of 'cap' cells, the numbers 'zs' (the first 'len' are its elements, the rest its spare room), each fitting its kind. -/
def IsRow (k : IntKind) (w : World) (a : Option Addr) (len cap : Nat) (zs : List Int) : Prop :=
  (a = none ∧ len = 0 ∧ cap = 0 ∧ zs = []) ∨
  ∃ x, a = some x ∧ len ≤ cap ∧ cap ≤ maxLen ∧ zs.length = cap ∧ (∀ i, i < zs.length → w.cell? (x.add i) = some (.int k (zs.getD i 0))) ∧ ∀ n ∈ zs, (Lit.int k n).wf = true

/-! ### THE WALK -/
set_option maxRecDepth 100000 in
set_option maxHeartbeats 3200000 in
theorem walk_00 (w : World) :
    Calls Try.prog 3 #[.slice none 0 0, .slice none 0 0] w fun e w' => e = .returned (.bool true) ∧ Below w.heap.size w w' := by
  have hq0 := fun (w : World) => run_neq_slice_nil_any (P := Try.prog) w 22 5 none 0 0 0 0 Try.underlying22
  have hq1 := fun (w : World) => run_neq_slice_nil_any (P := Try.prog) w 22 5 none 0 0 0 0 Try.underlying22
  go_enter Try.func3, Try.ntmps3
  go_wp2_with (go_at_call 5; refine (zz5 none none 0 0 0 0 w).mono ?_; rintro e w' ⟨r, rfl, rfl, hr⟩; refine Hid.out ?_)
  refine Lib.hid ?_
  cases r
  · go_wp2
    go_ret
    exact ⟨rfl, Below.refl _ _⟩
  clear hr
  have B0 : Hid (Below w.heap.size w w) := Below.refl _ _
  have HA : Has w none 0 [] := none_has w
  have BA : Hid (Below w.heap.size w w) := Below.refl _ _
  have B1 := BA
  have HB : Has w none 0 [] := none_has w
  have HA2 := HA
  have BB := BA
  clear HA
  have KA := Lib.hid HA2
  have KB := Lib.hid HB
  clear HA2 HB
  go_wp2_with (go_at_call 6; refine (first6 none 0 0 [] _ (by omega) KA.out).mono ?_; rintro e w' ⟨rfl, rfl⟩; refine Hid.out ?_)
  refine Lib.hid ?_
  go_wp2_with (go_at_call 7; refine (kind7 none 0 0 [] _ (by omega) KA.out).mono ?_; rintro e w' ⟨rfl, rfl⟩; refine Hid.out ?_)
  refine Lib.hid ?_
  go_wp2_with (go_at_call 7; refine (kind7 none 0 0 [] _ (by omega) KB.out).mono ?_; rintro e w' ⟨rfl, rfl⟩; refine Hid.out ?_)
  refine Lib.hid ?_
  go_wp2_with (go_at_call 8; refine (cat8' none 0 0 [] none 0 0 [] _ (by omega) (by omega) KA.out KB.out).mono ?_; rintro e w5 ⟨ad, m, cc, T, rfl, HT, hm, hT, b5⟩; refine Hid.out ?_)
  refine Lib.hid ?_
  have KT := Lib.hid hT
  have BF : Hid (Below w.heap.size w w5) := BB.out.trans (b5.mono BB.out.size)
  clear hT b5
  go_wp2_with (go_at_call 7; refine (kind7 ad m cc T _ (by omega) KT.out).mono ?_; rintro e w' ⟨rfl, rfl⟩; refine Hid.out ?_)
  refine Lib.hid ?_
  cases hf : fnd []
  · have e1 : (kd [] == 0) = true := by rw [(nfnd_kd hf []).1]; rfl
    have e2 : (kd T == kd []) = true := by rw [HT.out, (nfnd_kd hf []).2]; simp
    go_wp2
    go_ret
    exact ⟨rfl, BF.out⟩
  · have e2 : (kd T == kd []) = true := by rw [HT.out, (fnd_kd hf []).1]; simp
    go_wp2
    go_ret
    exact ⟨rfl, BF.out⟩

set_option maxRecDepth 100000 in
set_option maxHeartbeats 3200000 in
theorem walk_01 (x1 : Addr) (n1 c1 : Nat) (z1 : List Int) (w : World) (r1 : Row w x1 n1 z1) (hsum : 0 + n1 ≤ 1048576) :
    Calls Try.prog 3 #[.slice none 0 0, .slice (some x1) n1 c1] w fun e w' => e = .returned (.bool true) ∧ Below w.heap.size w w' := by
  have R1 := Lib.hid r1
  clear r1
  have hq0 := fun (w : World) => run_neq_slice_nil_any (P := Try.prog) w 22 5 none 0 0 0 0 Try.underlying22
  have hq1 := fun (w : World) => run_neq_slice_nil_any (P := Try.prog) w 22 5 (some x1) n1 c1 0 0 Try.underlying22
  go_enter Try.func3, Try.ntmps3
  go_wp2_with (go_at_call 5; refine (zz5 none (some x1) 0 0 n1 c1 w).mono ?_; rintro e w' ⟨r, rfl, rfl, hr⟩; refine Hid.out ?_)
  refine Lib.hid ?_
  cases r
  · go_wp2
    go_ret
    exact ⟨rfl, Below.refl _ _⟩
  clear hr
  have B0 : Hid (Below w.heap.size w w) := Below.refl _ _
  have HA : Has w none 0 [] := none_has w
  have BA : Hid (Below w.heap.size w w) := Below.refl _ _
  have B1 := BA
  obtain ⟨i0, hi, hz0, hz1, hz2⟩ := info_parts info5
  go_wp2_with (first
    | (at_make; refine wpList_make_full _ rfl _ _ 22 rfl w.heap.size 5 i0 (.int .u8 0) 1 Try.underlying22 hi hz0 hz1 .i64 .i64 (n1 : Int) (n1 : Int) n1 rfl rfl rfl rfl (by rw [hz2]; omega) (by unfold maxLen; omega) (Nat.le_refl _) ?_; intro wa hown hga)
    | (refine wpList_copy_splice rfl _ _ 22 22 rfl 5 Try.underlying22 size5 _ _ n1 n1 n1 c1 rfl rfl w.heap.size 0 _ 5 (ownsRow_whole hown).1 (cz z1) (by simp [cz_length, R1.out.1]) (fun _ => ⟨rfl, x1, rfl, R1.out.cells (B1.out.trans (Below.grown (Below.refl _ _) hga (Nat.le_refl _) (by intro k hk; cases hk) |>.mono B1.out.size))⟩) (by rw [(ownsRow_whole hown).2]; simp [cz_length, R1.out.1]) (cz_one z1) w.heap.size w (Below.grown (Below.refl _ _) hga (Nat.le_refl _) (by intro k hk; cases hk)) (Nat.le_refl _) ?_; intro w11 hh hb; refine Hid.out ?_))
  refine Lib.hid ?_
  have hHas := made_has R1.out.1 (ownsRow_whole hown).2 hh.out
  clear hh hown hga hi hz0 hz1 hz2
  have HB : Has w11 (some ⟨w.heap.size, 0, none⟩) n1 z1 := hHas
  have HA2 := HA.below hb
  have BB : Hid (Below w.heap.size w w11) := BA.out.trans (hb.mono BA.out.size)
  clear hHas hb HA
  have KA := Lib.hid HA2
  have KB := Lib.hid HB
  clear HA2 HB
  go_wp2_with (go_at_call 6; refine (first6 none 0 0 [] _ (by omega) KA.out).mono ?_; rintro e w' ⟨rfl, rfl⟩; refine Hid.out ?_)
  refine Lib.hid ?_
  go_wp2_with (go_at_call 7; refine (kind7 none 0 0 [] _ (by omega) KA.out).mono ?_; rintro e w' ⟨rfl, rfl⟩; refine Hid.out ?_)
  refine Lib.hid ?_
  go_wp2_with (go_at_call 7; refine (kind7 (some ⟨w.heap.size, 0, none⟩) n1 n1 z1 _ (by omega) KB.out).mono ?_; rintro e w' ⟨rfl, rfl⟩; refine Hid.out ?_)
  refine Lib.hid ?_
  go_wp2_with (go_at_call 8; refine (cat8' none 0 0 [] (some ⟨w.heap.size, 0, none⟩) n1 n1 z1 _ (by omega) (by omega) KA.out KB.out).mono ?_; rintro e w5 ⟨ad, m, cc, T, rfl, HT, hm, hT, b5⟩; refine Hid.out ?_)
  refine Lib.hid ?_
  have KT := Lib.hid hT
  have BF : Hid (Below w.heap.size w w5) := BB.out.trans (b5.mono BB.out.size)
  clear hT b5
  go_wp2_with (go_at_call 7; refine (kind7 ad m cc T _ (by omega) KT.out).mono ?_; rintro e w' ⟨rfl, rfl⟩; refine Hid.out ?_)
  refine Lib.hid ?_
  cases hf : fnd []
  · have e1 : (kd [] == 0) = true := by rw [(nfnd_kd hf []).1]; rfl
    have e2 : (kd T == kd z1) = true := by rw [HT.out, (nfnd_kd hf z1).2]; simp
    go_wp2
    go_ret
    exact ⟨rfl, BF.out⟩
  · have e2 : (kd T == kd []) = true := by rw [HT.out, (fnd_kd hf z1).1]; simp
    go_wp2
    go_ret
    exact ⟨rfl, BF.out⟩

set_option maxRecDepth 100000 in
set_option maxHeartbeats 3200000 in
theorem walk_10 (x0 : Addr) (n0 c0 : Nat) (z0 : List Int) (w : World) (r0 : Row w x0 n0 z0) (hsum : n0 + 0 ≤ 1048576) :
    Calls Try.prog 3 #[.slice (some x0) n0 c0, .slice none 0 0] w fun e w' => e = .returned (.bool true) ∧ Below w.heap.size w w' := by
  have R0 := Lib.hid r0
  clear r0
  have hq0 := fun (w : World) => run_neq_slice_nil_any (P := Try.prog) w 22 5 (some x0) n0 c0 0 0 Try.underlying22
  have hq1 := fun (w : World) => run_neq_slice_nil_any (P := Try.prog) w 22 5 none 0 0 0 0 Try.underlying22
  go_enter Try.func3, Try.ntmps3
  go_wp2_with (go_at_call 5; refine (zz5 (some x0) none n0 c0 0 0 w).mono ?_; rintro e w' ⟨r, rfl, rfl, hr⟩; refine Hid.out ?_)
  refine Lib.hid ?_
  cases r
  · go_wp2
    go_ret
    exact ⟨rfl, Below.refl _ _⟩
  clear hr
  have B0 : Hid (Below w.heap.size w w) := Below.refl _ _
  obtain ⟨i0, hi, hz0, hz1, hz2⟩ := info_parts info5
  go_wp2_with (first
    | (at_make; refine wpList_make_full _ rfl _ _ 22 rfl w.heap.size 5 i0 (.int .u8 0) 1 Try.underlying22 hi hz0 hz1 .i64 .i64 (n0 : Int) (n0 : Int) n0 rfl rfl rfl rfl (by rw [hz2]; omega) (by unfold maxLen; omega) (Nat.le_refl _) ?_; intro wa hown hga)
    | (refine wpList_copy_splice rfl _ _ 22 22 rfl 5 Try.underlying22 size5 _ _ n0 n0 n0 c0 rfl rfl w.heap.size 0 _ 5 (ownsRow_whole hown).1 (cz z0) (by simp [cz_length, R0.out.1]) (fun _ => ⟨rfl, x0, rfl, R0.out.cells (B0.out.trans (Below.grown (Below.refl _ _) hga (Nat.le_refl _) (by intro k hk; cases hk) |>.mono B0.out.size))⟩) (by rw [(ownsRow_whole hown).2]; simp [cz_length, R0.out.1]) (cz_one z0) w.heap.size w (Below.grown (Below.refl _ _) hga (Nat.le_refl _) (by intro k hk; cases hk)) (Nat.le_refl _) ?_; intro w10 hh hb; refine Hid.out ?_))
  refine Lib.hid ?_
  have hHas := made_has R0.out.1 (ownsRow_whole hown).2 hh.out
  clear hh hown hga hi hz0 hz1 hz2
  have HA : Has w10 (some ⟨w.heap.size, 0, none⟩) n0 z0 := hHas
  have BA : Hid (Below w.heap.size w w10) := hb
  clear hHas hb
  have B1 := BA
  have HB : Has w10 none 0 [] := none_has w10
  have HA2 := HA
  have BB := BA
  clear HA
  have KA := Lib.hid HA2
  have KB := Lib.hid HB
  clear HA2 HB
  go_wp2_with (go_at_call 6; refine (first6 (some ⟨w.heap.size, 0, none⟩) n0 n0 z0 _ (by omega) KA.out).mono ?_; rintro e w' ⟨rfl, rfl⟩; refine Hid.out ?_)
  refine Lib.hid ?_
  go_wp2_with (go_at_call 7; refine (kind7 (some ⟨w.heap.size, 0, none⟩) n0 n0 z0 _ (by omega) KA.out).mono ?_; rintro e w' ⟨rfl, rfl⟩; refine Hid.out ?_)
  refine Lib.hid ?_
  go_wp2_with (go_at_call 7; refine (kind7 none 0 0 [] _ (by omega) KB.out).mono ?_; rintro e w' ⟨rfl, rfl⟩; refine Hid.out ?_)
  refine Lib.hid ?_
  go_wp2_with (go_at_call 8; refine (cat8' (some ⟨w.heap.size, 0, none⟩) n0 n0 z0 none 0 0 [] _ (by omega) (by omega) KA.out KB.out).mono ?_; rintro e w5 ⟨ad, m, cc, T, rfl, HT, hm, hT, b5⟩; refine Hid.out ?_)
  refine Lib.hid ?_
  have KT := Lib.hid hT
  have BF : Hid (Below w.heap.size w w5) := BB.out.trans (b5.mono BB.out.size)
  clear hT b5
  go_wp2_with (go_at_call 7; refine (kind7 ad m cc T _ (by omega) KT.out).mono ?_; rintro e w' ⟨rfl, rfl⟩; refine Hid.out ?_)
  refine Lib.hid ?_
  cases hf : fnd z0
  · have e1 : (kd z0 == 0) = true := by rw [(nfnd_kd hf []).1]; rfl
    have e2 : (kd T == kd []) = true := by rw [HT.out, (nfnd_kd hf []).2]; simp
    go_wp2
    go_ret
    exact ⟨rfl, BF.out⟩
  · have e2 : (kd T == kd z0) = true := by rw [HT.out, (fnd_kd hf []).1]; simp
    go_wp2
    go_ret
    exact ⟨rfl, BF.out⟩

set_option maxRecDepth 100000 in
set_option maxHeartbeats 3200000 in
theorem walk_11 (x0 : Addr) (n0 c0 : Nat) (z0 : List Int) (x1 : Addr) (n1 c1 : Nat) (z1 : List Int) (w : World) (r0 : Row w x0 n0 z0) (r1 : Row w x1 n1 z1) (hsum : n0 + n1 ≤ 1048576) :
    Calls Try.prog 3 #[.slice (some x0) n0 c0, .slice (some x1) n1 c1] w fun e w' => e = .returned (.bool true) ∧ Below w.heap.size w w' := by
  have R0 := Lib.hid r0
  clear r0
  have R1 := Lib.hid r1
  clear r1
  have hq0 := fun (w : World) => run_neq_slice_nil_any (P := Try.prog) w 22 5 (some x0) n0 c0 0 0 Try.underlying22
  have hq1 := fun (w : World) => run_neq_slice_nil_any (P := Try.prog) w 22 5 (some x1) n1 c1 0 0 Try.underlying22
  go_enter Try.func3, Try.ntmps3
  go_wp2_with (go_at_call 5; refine (zz5 (some x0) (some x1) n0 c0 n1 c1 w).mono ?_; rintro e w' ⟨r, rfl, rfl, hr⟩; refine Hid.out ?_)
  refine Lib.hid ?_
  cases r
  · go_wp2
    go_ret
    exact ⟨rfl, Below.refl _ _⟩
  clear hr
  have B0 : Hid (Below w.heap.size w w) := Below.refl _ _
  obtain ⟨i0, hi, hz0, hz1, hz2⟩ := info_parts info5
  go_wp2_with (first
    | (at_make; refine wpList_make_full _ rfl _ _ 22 rfl w.heap.size 5 i0 (.int .u8 0) 1 Try.underlying22 hi hz0 hz1 .i64 .i64 (n0 : Int) (n0 : Int) n0 rfl rfl rfl rfl (by rw [hz2]; omega) (by unfold maxLen; omega) (Nat.le_refl _) ?_; intro wa hown hga)
    | (refine wpList_copy_splice rfl _ _ 22 22 rfl 5 Try.underlying22 size5 _ _ n0 n0 n0 c0 rfl rfl w.heap.size 0 _ 5 (ownsRow_whole hown).1 (cz z0) (by simp [cz_length, R0.out.1]) (fun _ => ⟨rfl, x0, rfl, R0.out.cells (B0.out.trans (Below.grown (Below.refl _ _) hga (Nat.le_refl _) (by intro k hk; cases hk) |>.mono B0.out.size))⟩) (by rw [(ownsRow_whole hown).2]; simp [cz_length, R0.out.1]) (cz_one z0) w.heap.size w (Below.grown (Below.refl _ _) hga (Nat.le_refl _) (by intro k hk; cases hk)) (Nat.le_refl _) ?_; intro w10 hh hb; refine Hid.out ?_))
  refine Lib.hid ?_
  have hHas := made_has R0.out.1 (ownsRow_whole hown).2 hh.out
  clear hh hown hga hi hz0 hz1 hz2
  have HA : Has w10 (some ⟨w.heap.size, 0, none⟩) n0 z0 := hHas
  have BA : Hid (Below w.heap.size w w10) := hb
  clear hHas hb
  have B1 := BA
  obtain ⟨i0, hi, hz0, hz1, hz2⟩ := info_parts info5
  go_wp2_with (first
    | (at_make; refine wpList_make_full _ rfl _ _ 22 rfl w10.heap.size 5 i0 (.int .u8 0) 1 Try.underlying22 hi hz0 hz1 .i64 .i64 (n1 : Int) (n1 : Int) n1 rfl rfl rfl rfl (by rw [hz2]; omega) (by unfold maxLen; omega) (Nat.le_refl _) ?_; intro wa hown hga)
    | (refine wpList_copy_splice rfl _ _ 22 22 rfl 5 Try.underlying22 size5 _ _ n1 n1 n1 c1 rfl rfl w10.heap.size 0 _ 5 (ownsRow_whole hown).1 (cz z1) (by simp [cz_length, R1.out.1]) (fun _ => ⟨rfl, x1, rfl, R1.out.cells (B1.out.trans (Below.grown (Below.refl _ _) hga (Nat.le_refl _) (by intro k hk; cases hk) |>.mono B1.out.size))⟩) (by rw [(ownsRow_whole hown).2]; simp [cz_length, R1.out.1]) (cz_one z1) w10.heap.size w10 (Below.grown (Below.refl _ _) hga (Nat.le_refl _) (by intro k hk; cases hk)) (Nat.le_refl _) ?_; intro w11 hh hb; refine Hid.out ?_))
  refine Lib.hid ?_
  have hHas := made_has R1.out.1 (ownsRow_whole hown).2 hh.out
  clear hh hown hga hi hz0 hz1 hz2
  have HB : Has w11 (some ⟨w10.heap.size, 0, none⟩) n1 z1 := hHas
  have HA2 := HA.below hb
  have BB : Hid (Below w.heap.size w w11) := BA.out.trans (hb.mono BA.out.size)
  clear hHas hb HA
  have KA := Lib.hid HA2
  have KB := Lib.hid HB
  clear HA2 HB
  go_wp2_with (go_at_call 6; refine (first6 (some ⟨w.heap.size, 0, none⟩) n0 n0 z0 _ (by omega) KA.out).mono ?_; rintro e w' ⟨rfl, rfl⟩; refine Hid.out ?_)
  refine Lib.hid ?_
  go_wp2_with (go_at_call 7; refine (kind7 (some ⟨w.heap.size, 0, none⟩) n0 n0 z0 _ (by omega) KA.out).mono ?_; rintro e w' ⟨rfl, rfl⟩; refine Hid.out ?_)
  refine Lib.hid ?_
  go_wp2_with (go_at_call 7; refine (kind7 (some ⟨w10.heap.size, 0, none⟩) n1 n1 z1 _ (by omega) KB.out).mono ?_; rintro e w' ⟨rfl, rfl⟩; refine Hid.out ?_)
  refine Lib.hid ?_
  go_wp2_with (go_at_call 8; refine (cat8' (some ⟨w.heap.size, 0, none⟩) n0 n0 z0 (some ⟨w10.heap.size, 0, none⟩) n1 n1 z1 _ (by omega) (by omega) KA.out KB.out).mono ?_; rintro e w5 ⟨ad, m, cc, T, rfl, HT, hm, hT, b5⟩; refine Hid.out ?_)
  refine Lib.hid ?_
  have KT := Lib.hid hT
  have BF : Hid (Below w.heap.size w w5) := BB.out.trans (b5.mono BB.out.size)
  clear hT b5
  go_wp2_with (go_at_call 7; refine (kind7 ad m cc T _ (by omega) KT.out).mono ?_; rintro e w' ⟨rfl, rfl⟩; refine Hid.out ?_)
  refine Lib.hid ?_
  cases hf : fnd z0
  · have e1 : (kd z0 == 0) = true := by rw [(nfnd_kd hf []).1]; rfl
    have e2 : (kd T == kd z1) = true := by rw [HT.out, (nfnd_kd hf z1).2]; simp
    go_wp2
    go_ret
    exact ⟨rfl, BF.out⟩
  · have e2 : (kd T == kd z0) = true := by rw [HT.out, (fnd_kd hf z1).1]; simp
    go_wp2
    go_ret
    exact ⟨rfl, BF.out⟩

set_option maxHeartbeats 800000 in
theorem walk_bad (a0 a1 : Option Addr) (n0 c0 n1 c1 : Nat) (w : World) (hb : ¬ n0 + n1 ≤ 1048576) :
    Calls Try.prog 3 #[.slice a0 n0 c0, .slice a1 n1 c1] w fun e w' => e = .returned (.bool true) ∧ Below w.heap.size w w' := by
  go_enter Try.func3, Try.ntmps3
  go_wp2_with (go_at_call 5; refine (zz5 a0 a1 n0 c0 n1 c1 w).mono ?_; rintro e w' ⟨r, rfl, rfl, hr⟩; refine Hid.out ?_)
  refine Lib.hid ?_
  cases r
  · go_wp2
    go_ret
    exact ⟨rfl, Below.refl _ _⟩
  · exact absurd (hr rfl) hb

theorem row_of {W : World} {x : Addr} {len cap : Nat} {zs : List Int} (hl : len ≤ cap) (hz : zs.length = cap) (hc : ∀ i, i < zs.length → W.cell? (x.add i) = some (.int .u8 (zs.getD i 0))) : Row W x len (zs.take len) := by
  refine ⟨by simp; omega, fun j hj => ?_⟩
  rw [hc j (by omega)]
  simp [hj]

theorem walk (a0 : Option Addr) (len0 cap0 : Nat) (z0 : List Int) (a1 : Option Addr) (len1 cap1 : Nat) (z1 : List Int) (w : World) (w0 : IsRow .u8 w a0 len0 cap0 z0) (w1 : IsRow .u8 w a1 len1 cap1 z1) :
    Calls Try.prog 3 #[.slice a0 len0 cap0, .slice a1 len1 cap1] w fun e w' => e = .returned (.bool true) ∧ Below w.heap.size w w' := by
  by_cases hs : len0 + len1 ≤ 1048576
  · rcases w0 with ⟨rfl, rfl, rfl, rfl⟩ | ⟨x0, rfl, hl0, hm0, hz0, hc0, _⟩
    · rcases w1 with ⟨rfl, rfl, rfl, rfl⟩ | ⟨x1, rfl, hl1, hm1, hz1, hc1, _⟩
      · exact walk_00 w
      · exact walk_01 x1 len1 cap1 _ w (row_of hl1 hz1 hc1) hs
    · rcases w1 with ⟨rfl, rfl, rfl, rfl⟩ | ⟨x1, rfl, hl1, hm1, hz1, hc1, _⟩
      · exact walk_10 x0 len0 cap0 _ w (row_of hl0 hz0 hc0) hs
      · exact walk_11 x0 len0 cap0 _ x1 len1 cap1 _ w (row_of hl0 hz0 hc0) (row_of hl1 hz1 hc1) hs
  · exact walk_bad a0 a1 len0 cap0 len1 cap1 w hs

/-! ### THE ROW's STEP: WRITTEN OUT: LEAVE IT -/
set_option maxRecDepth 100000 in
theorem lifted (os : Os) (started : os.Started) (H : Type) (enc : TypeId × Value → H) :
    ReturnsInHanded {} Try.checked os 3 .any (Rows.fnKindMatchesFirstSignificantByteSpec.pre6 enc Try.prog Try.f3 Rows.fnKindMatchesFirstSignificantByteRow.domain false) (Rows.fnKindMatchesFirstSignificantByteSpec.post enc Try.prog Try.f3 false true false false) := by
  refine returnsInHanded_of_change (C := Try.checked) own started (by kernel_rfl) Try.func3
    (ChangeSpec.witness6 (enc := enc) (C := Try.checked) false ⟨#[], #[.slice none 0 0, .slice none 0 0], []⟩ 8 (by kernel_rfl) (by kernel_rfl) (by kernel_rfl) (by kernel_rfl)) ?_
  intro W base args ds gs before hval0 hW hcnd _
  have hval : ∀ (j : Nat) t v, Try.f3.params[j]? = some t → args[j]? = some v → Value.okWide Try.prog W .any base t v := hval0
  have hW' := hW
  obtain ⟨p, q, hA0, hV, rfl, hfz, hnd⟩ := hW
  have hA : DataW.TrodAll enc Try.prog W 0 (fun _ => true) true Try.f3.params.toList args.toList ds p := hA0
  rw [Try.params3] at hA hval
  obtain ⟨v0, vs0, d0, ds0, p0, q0, hargs, rfl, rfl, h0, r0⟩ := trodAll_cons hA
  obtain ⟨v1, vs1, d1, ds1, p1, q1, rfl, rfl, rfl, h1, r1⟩ := trodAll_cons r0
  obtain ⟨rfl, rfl, rfl⟩ := trodAll_nil r1
  obtain rfl : args = #[v0, v1] := by cases args; simp_all
  obtain ⟨rfl, rfl⟩ := trodVars_none hV
  obtain ⟨a0, len0, cap0, rfl⟩ := okWide_slice Try.underlying22 (hval 0 22 v0 rfl rfl)
  have k0 := h0
  have lt0 : ∀ x ∈ p0, x.block < W.heap.size := by obtain ⟨m, hm⟩ := k0; exact DataW.trod_lt m _ _ _ hm
  obtain ⟨z0, w0⟩ : ∃ zs, IsRow .u8 W a0 len0 cap0 zs := by
    obtain ⟨fuel, hf⟩ := h0
    rcases open_ints Try.underlying22 Try.underlying5 (by kernel_rfl) hf with ⟨hcs, _⟩ | ⟨x, l, c, zs, hcs, _, hl, hm, hz, _, hcell, hwz⟩
    · simp [Value.cells] at hcs
      obtain ⟨rfl, rfl, rfl⟩ := hcs
      exact ⟨[], .inl ⟨rfl, rfl, rfl, rfl⟩⟩
    · simp [Value.cells] at hcs
      obtain ⟨rfl, rfl, rfl⟩ := hcs
      exact ⟨zs, .inr ⟨_, rfl, hl, hm, by simpa using hz, hcell, hwz⟩⟩
  obtain ⟨a1, len1, cap1, rfl⟩ := okWide_slice Try.underlying22 (hval 1 22 v1 rfl rfl)
  have k1 := h1
  have lt1 : ∀ x ∈ p1, x.block < W.heap.size := by obtain ⟨m, hm⟩ := k1; exact DataW.trod_lt m _ _ _ hm
  obtain ⟨z1, w1⟩ : ∃ zs, IsRow .u8 W a1 len1 cap1 zs := by
    obtain ⟨fuel, hf⟩ := h1
    rcases open_ints Try.underlying22 Try.underlying5 (by kernel_rfl) hf with ⟨hcs, _⟩ | ⟨x, l, c, zs, hcs, _, hl, hm, hz, _, hcell, hwz⟩
    · simp [Value.cells] at hcs
      obtain ⟨rfl, rfl, rfl⟩ := hcs
      exact ⟨[], .inl ⟨rfl, rfl, rfl, rfl⟩⟩
    · simp [Value.cells] at hcs
      obtain ⟨rfl, rfl, rfl⟩ := hcs
      exact ⟨zs, .inr ⟨_, rfl, hl, hm, by simpa using hz, hcell, hwz⟩⟩
  clear hA0 hval0
  refine (walk a0 len0 cap0 z0 a1 len1 cap1 z1 W w0 w1).mono fun e W' ⟨he, bel⟩ => ?_
  subst he
  exact ⟨_, rfl, _, _, _, [], _, [], hW', trodAll_mk1 (shut_bool Try.underlying4 _), (trodAll_cons_mk (Below.trod laidOut (by kernel_rfl) (of_decide_eq_true (by kernel_rfl)) k0 bel lt0) (trodAll_cons_mk (Below.trod laidOut (by kernel_rfl) (of_decide_eq_true (by kernel_rfl)) k1 bel lt1) trodAll_mk0)), rfl, bel.frame _, fun h => by cases h⟩

theorem over : Rows.fnKindMatchesFirstSignificantByteRow.holds Try.pinned (OpenSpec.ofChange Rows.fnKindMatchesFirstSignificantByteSpec) :=
  OpenClaim.holds_of_wide 3 Try.f3 rfl rfl rfl rfl rfl rfl rfl ⟨rfl, rfl, rfl, rfl, rfl⟩ rfl rfl rfl rfl rfl (by kernel_rfl) Try.func3 (by kernel_rfl)
    (of_decide_eq_true (by kernel_rfl)) (by unfold Func.isWrapper; first | (rw [if_pos (by decide +kernel)]; kernel_rfl) | (rw [if_neg (by decide +kernel)]; exact ⟨rfl, rfl⟩))
    (fun os started H enc _ => lifted os started H enc)

/-- ████ THE STATEMENT ████ -/
theorem proved : Rows.FnKindMatchesFirstSignificantByteSaid := over
#print axioms proved
end Go.Proofs.Qxb6631243a.fnKindMatchesFirstSignificantByte
