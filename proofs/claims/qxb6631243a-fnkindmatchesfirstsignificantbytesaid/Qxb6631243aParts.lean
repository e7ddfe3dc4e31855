/-
  The callees' contracts: zzBytes (5, 9), zzIsBlank (11), Kind (7), zzFirstSignificant (6), zzHasByte (10), zzCat (8).
-/
import Derived.Test.Qxb6631243aRows
import Derived.WalkKit
import Derived.WalkSpells
import Derived.Below
import Derived.OwnWalk
import Derived.Lib.Hide
namespace Go.Proofs.Qxb6631243a
open Go.RowKit

/-! ### plain -/
def blankB (c : Int) : Bool := c == 32 || c == 9 || c == 10 || c == 13
/-- the first byte that is no white space -/
def sig (l : List Int) : Option Int := l.find? fun c => !blankB c
/-- what Kind answers; whether there is such a byte -/
def kd (l : List Int) : Int := (sig l).getD 0
def fnd (l : List Int) : Bool := (sig l).isSome
theorem sig_append (a b : List Int) : sig (a ++ b) = (sig a).or (sig b) := List.find?_append
theorem sig_take_succ {l : List Int} {k : Nat} (h : k < l.length) : sig (l.take (k + 1)) = (sig (l.take k)).or (if blankB (l.getD k 0) then none else some (l.getD k 0)) := by
  rw [List.take_succ_eq_append_getElem h, sig_append]
  congr 1
  simp only [sig, List.getD, List.getElem?_eq_getElem h, Option.getD_some]
  cases hb : blankB l[k] <;> simp [hb]
theorem sig_drop {l : List Int} {k : Nat} (h : k < l.length) : sig (l.drop k) = if blankB (l.getD k 0) then sig (l.drop (k + 1)) else some (l.getD k 0) := by
  have e : l.getD k 0 = l[k] := by simp [h]
  rw [e, List.drop_eq_getElem_cons h]
  unfold sig
  rw [List.find?_cons]
  cases hb : blankB l[k] <;> rfl
theorem blank_cases (c : Int) : (blankB c = true ∧ ((c == 32) = true ∨ ((c == 32) = false ∧ (c == 9) = true) ∨ ((c == 32) = false ∧ (c == 9) = false ∧ (c == 10) = true) ∨ ((c == 32) = false ∧ (c == 9) = false ∧ (c == 10) = false ∧ (c == 13) = true))) ∨
    (blankB c = false ∧ (c == 32) = false ∧ (c == 9) = false ∧ (c == 10) = false ∧ (c == 13) = false) := by
  unfold blankB
  cases (c == 32) <;> cases (c == 9) <;> cases (c == 10) <;> cases (c == 13) <;> simp

theorem fnd_kd {a : List Int} (h : fnd a = true) (b : List Int) : kd (a ++ b) = kd a ∧ fnd (a ++ b) = true := by
  unfold fnd kd at *
  rw [sig_append]
  cases hs : sig a
  · rw [hs] at h; simp at h
  · simp
theorem nfnd_kd {a : List Int} (h : fnd a = false) (b : List Int) : kd a = 0 ∧ kd (a ++ b) = kd b := by
  unfold fnd kd at *
  rw [sig_append]
  cases hs : sig a
  · simp
  · rw [hs] at h; simp at h
theorem kd_mem {a : List Int} (h : fnd a = true) : (a.any fun y => y == kd a) = true := by
  unfold fnd kd at *
  cases hs : sig a
  · rw [hs] at h; simp at h
  · rename_i x
    have hm : x ∈ a := List.mem_of_find?_eq_some hs
    simp [hm]

/-! ### slices of bytes in memory -/
/-- a slice of n bytes zs -/
def Has (w : World) (a : Option Addr) (n : Nat) (zs : List Int) : Prop :=
  zs.length = n ∧ (0 < n → ∃ b o, a = some ⟨b, o, none⟩ ∧ b < w.heap.size ∧ ∀ j, j < n → w.cell? ⟨b, o + j, none⟩ = some (.int .u8 (zs.getD j 0)))
theorem Has.below {w w' : World} {a : Option Addr} {n : Nat} {zs : List Int} (h : Has w a n zs) (hb : Below w.heap.size w w') : Has w' a n zs := by
  refine ⟨h.1, fun hn => ?_⟩
  obtain ⟨b, o, ha, hlt, hc⟩ := h.2 hn
  exact ⟨b, o, ha, Nat.lt_of_lt_of_le hlt hb.size, fun j hj => (hb.cell (p := ⟨b, o + j, none⟩) hlt).trans (hc j hj)⟩

/-! ### the walks -/
set_option maxHeartbeats 800000 in
theorem zz5 (a0 a1 : Option Addr) (n0 c0 n1 c1 : Nat) (w : World) :
    Calls Try.prog 5 #[.slice a0 n0 c0, .slice a1 n1 c1] w fun e w' => ∃ r : Bool, e = .returned (.bool r) ∧ w = w' ∧ (r = true → n0 + n1 ≤ 1048576) := by
  go_enter Try.func5, Try.ntmps5
  go_wp2
  all_goals
    go_ret
    exact ⟨_, rfl, rfl, by intro _; first | contradiction | omega⟩

set_option maxHeartbeats 800000 in
theorem zz9 (a0 a1 : Option Addr) (n0 c0 n1 c1 : Nat) (w : World) :
    Calls Try.prog 9 #[.slice a0 n0 c0, .slice a1 n1 c1] w fun e w' => ∃ r : Bool, e = .returned (.bool r) ∧ w = w' ∧ (r = true → n0 + n1 ≤ 1048576) := by
  go_enter Try.func9, Try.ntmps9
  go_wp2
  all_goals
    go_ret
    exact ⟨_, rfl, rfl, by intro _; first | contradiction | omega⟩

set_option maxHeartbeats 800000 in
theorem blank11 (c : Int) (w : World) : Calls Try.prog 11 #[.int .u8 c] w fun e w' => e = .returned (.bool (blankB c)) ∧ w = w' := by
  rcases blank_cases c with ⟨hb, h | ⟨h, h1⟩ | ⟨h, h1, h2⟩ | ⟨h, h1, h2, h3⟩⟩ | ⟨hb, h, h1, h2, h3⟩
  all_goals
    rw [hb]
    clear hb
    go_enter Try.func11, Try.ntmps11
    go_wp2
    go_ret
    exact ⟨rfl, rfl⟩

set_option maxHeartbeats 800000 in
theorem kind7 (a : Option Addr) (n c : Nat) (zs : List Int) (w : World) (hn : n ≤ 3000000) (h : Has w a n zs) :
    Calls Try.prog 7 #[.slice a n c] w fun e w' => e = .returned (.int .u8 (kd zs)) ∧ w = w' := by
  obtain ⟨hl, h⟩ := h
  have HH := Lib.hid h
  have HL := Lib.hid hl
  clear h hl
  go_enter Try.func7, Try.ntmps7
  go_wp2
  go_loop [7] (fun i => ∃ k : Nat, k ≤ n ∧ i = .int .i64 k ∧ sig (zs.take k) = none) (fun i => n - (intOf i).toNat)
  case atStart => exact ⟨0, Nat.zero_le _, rfl, rfl⟩
  case round =>
    obtain ⟨k, hk, rfl, hs⟩ := hrel
    have HS := Lib.hid hs
    clear hs
    by_cases hlt : k < n
    · obtain ⟨b, o, hae, hb, hc⟩ := HH.out (by omega)
      subst hae
      have hck := hc k hlt
      have hst := sig_take_succ (l := zs) (k := k) (by rw [HL.out]; exact hlt)
      rw [HS.out, Option.none_or] at hst
      have hsd : sig zs = (sig (zs.take (k + 1))).or (sig (zs.drop (k + 1))) := by rw [← sig_append, List.take_append_drop]
      generalize zs.getD k 0 = x at hck hst
      have HST := Lib.hid hst
      have HSD := Lib.hid hsd
      clear hst hsd hc
      rcases blank_cases x with ⟨hb, h | ⟨h, h1⟩ | ⟨h, h1, h2⟩ | ⟨h, h1, h2, h3⟩⟩ | ⟨hb, h, h1, h2, h3⟩
      all_goals
        have HB := Lib.hid hb
        clear hb
        go_wp2
      · go_round
        case rel => exact ⟨k + 1, by omega, by go_num, by rw [HST.out, HB.out]; rfl⟩
        case measure => simp [intOf]; omega
      · go_round
        case rel => exact ⟨k + 1, by omega, by go_num, by rw [HST.out, HB.out]; rfl⟩
        case measure => simp [intOf]; omega
      · go_round
        case rel => exact ⟨k + 1, by omega, by go_num, by rw [HST.out, HB.out]; rfl⟩
        case measure => simp [intOf]; omega
      · go_round
        case rel => exact ⟨k + 1, by omega, by go_num, by rw [HST.out, HB.out]; rfl⟩
        case measure => simp [intOf]; omega
      · go_ret
        have e : sig zs = some x := by rw [HSD.out, HST.out, HB.out]; rfl
        rw [show kd zs = x by rw [kd, e]; rfl]
        exact ⟨rfl, rfl⟩
    · go_wp2
      go_ret
      have e : sig zs = none := by have := HS.out; rwa [List.take_of_length_le (by rw [HL.out]; omega)] at this
      rw [show kd zs = 0 by rw [kd, e]; rfl]
      exact ⟨rfl, rfl⟩

set_option maxHeartbeats 800000 in
theorem first6 (a : Option Addr) (n c : Nat) (zs : List Int) (w : World) (hn : n ≤ 3000000) (h : Has w a n zs) :
    Calls Try.prog 6 #[.slice a n c] w fun e w' => e = .returned (.tuple #[.int .u8 (kd zs), .bool (fnd zs)]) ∧ w = w' := by
  obtain ⟨hl, h⟩ := h
  have HH := Lib.hid h
  have HL := Lib.hid hl
  clear h hl
  go_enter Try.func6, Try.ntmps6
  go_wp2
  go_loop [4, 5, 6] (fun x f i => ∃ k : Nat, k ≤ n ∧ i = .int .i64 ((k : Int) - 1) ∧ x = .int .u8 ((sig (zs.drop k)).getD 0) ∧ f = .bool (sig (zs.drop k)).isSome) (fun _ _ i => (intOf i + 1).toNat)
  case atStart => exact ⟨n, Nat.le_refl _, rfl, by rw [List.drop_of_length_le (by rw [HL.out]; omega)]; rfl, by rw [List.drop_of_length_le (by rw [HL.out]; omega)]; rfl⟩
  case round =>
    obtain ⟨k, hk, rfl, rfl, rfl⟩ := hrel
    by_cases hlt : 0 < k
    · obtain ⟨j, rfl⟩ : ∃ j, k = j + 1 := ⟨k - 1, by omega⟩
      obtain ⟨b, o, hae, hb, hc⟩ := HH.out (by omega)
      subst hae
      have hck := hc j (by omega)
      have hsd := sig_drop (l := zs) (k := j) (by rw [HL.out]; omega)
      generalize zs.getD j 0 = x at hck hsd
      generalize sig (zs.drop (j + 1)) = S at hsd ⊢
      have HSD := Lib.hid hsd
      clear hsd hc
      cases hbl : blankB x
      · have HB := Lib.hid hbl
        go_wp2_with (go_at_call 11; refine (blank11 _ _).mono ?_; rintro e w' ⟨rfl, rfl⟩)
        go_round
        case rel => exact ⟨j, by omega, by go_num, by rw [HSD.out, HB.out]; rfl, by rw [HSD.out, HB.out]; rfl⟩
        case measure => simp [intOf]
      · have HB := Lib.hid hbl
        go_wp2_with (go_at_call 11; refine (blank11 _ _).mono ?_; rintro e w' ⟨rfl, rfl⟩)
        go_round
        case rel => exact ⟨j, by omega, by go_num, by rw [HSD.out, HB.out]; rfl, by rw [HSD.out, HB.out]; rfl⟩
        case measure => simp [intOf]
    · have hk0 : k = 0 := by omega
      subst hk0
      go_wp2
      go_ret2
      exact ⟨by simp [kd, fnd], rfl⟩

set_option maxHeartbeats 800000 in
theorem has10 (a : Option Addr) (n c : Nat) (zs : List Int) (x : Int) (w : World) (hn : n ≤ 3000000) (h : Has w a n zs) :
    Calls Try.prog 10 #[.slice a n c, .int .u8 x] w fun e w' => e = .returned (.bool (zs.any fun y => y == x)) ∧ w = w' := by
  obtain ⟨hl, h⟩ := h
  have HH := Lib.hid h
  have HL := Lib.hid hl
  clear h hl
  obtain ⟨R, hR⟩ : ∃ R, R = zs.any fun y => y == x := ⟨_, rfl⟩
  rw [← hR]
  have HR := Lib.hid hR
  clear hR
  go_enter Try.func10, Try.ntmps10
  go_wp2
  go_loop [5] (fun i => ∃ k : Nat, k ≤ n ∧ i = .int .i64 k ∧ (zs.take k).any (fun y => y == x) = false) (fun i => n - (intOf i).toNat)
  case atStart => exact ⟨0, Nat.zero_le _, rfl, rfl⟩
  case round =>
    obtain ⟨k, hk, rfl, hs⟩ := hrel
    have HS := Lib.hid hs
    clear hs
    by_cases hlt : k < n
    · obtain ⟨b, o, hae, hb, hc⟩ := HH.out (by omega)
      subst hae
      have hck := hc k hlt
      have hz : k < zs.length := by rw [HL.out]; exact hlt
      have hst : (zs.take (k + 1)).any (fun y => y == x) = (zs.getD k 0 == x) := by
        rw [List.take_succ_eq_append_getElem hz, List.any_append, HS.out]; simp [hz]
      have hal : zs.any (fun y => y == x) = ((zs.take (k + 1)).any (fun y => y == x) || (zs.drop (k + 1)).any (fun y => y == x)) := by rw [← List.any_append, List.take_append_drop]
      generalize zs.getD k 0 = y at hck hst
      have HST := Lib.hid hst
      have HAL := Lib.hid hal
      clear hst hal hc hz
      cases hy : (y == x)
      · have HY := Lib.hid hy
        go_wp2
        go_round
        case rel => exact ⟨k + 1, by omega, by go_num, by rw [HST.out, HY.out]⟩
        case measure => simp [intOf]; omega
      · have HY := Lib.hid hy
        go_wp2
        go_ret
        have e : R = true := by rw [HR.out, HAL.out, HST.out, HY.out]; rfl
        rw [e]
        exact ⟨rfl, rfl⟩
    · go_wp2
      go_ret
      have e : R = false := by
        rw [HR.out]
        have := HS.out
        rwa [List.take_of_length_le (by rw [HL.out]; omega)] at this
      rw [e]
      exact ⟨rfl, rfl⟩

/-! ### zzCat -/
def cz (zs : List Int) : List Value := zs.map (Value.int .u8)
theorem cz_get (zs : List Int) (j : Nat) (h : j < zs.length) : (cz zs)[j]? = some (.int .u8 (zs.getD j 0)) := by simp [cz, h]
theorem info5 : (Try.prog.info? 5).map (fun i => (i.zero, i.size, i.bytes)) = some (some (.int .u8 0), 1, 1) := by kernel_rfl

/-- v owns the numbers l in a row from B on; below B the world is as wb was -/
structure St (wb : World) (B : Nat) (w : World) (v : Value) (l : List Int) : Prop where
  own : w.ownsRow B 5 1 v l.length (cz l)
  bel : Below B wb w
  szb : B ≤ wb.heap.size
theorem St.sz {wb : World} {B : Nat} {w : World} {v : Value} {l : List Int} (h : St wb B w v l) : B ≤ w.heap.size := Nat.le_trans h.szb h.bel.size
theorem St.alloc {wb : World} {B : Nat} {w : World} {v : Value} {l : List Int} (h : St wb B w v l) (o : Obj) : St wb B (w.alloc o) v l := ⟨h.own.alloc o, h.bel.alloc h.sz o, h.szb⟩
theorem St.next {wb : World} {B : Nat} {w w' : World} {v v' : Value} {l l' : List Int} (h : St wb B w v l) (ho : w'.ownsRow B 5 1 v' l'.length (cz l')) (hg : w.grownBy w' v.ownBlock) : St wb B w' v' l' :=
  ⟨ho, h.bel.grown hg h.sz (fun k hk => (h.own.lt k hk).1), h.szb⟩

/-- 'b = append(b, c)': the one byte has been laid in a block of its own -/
theorem wpList_app1 {wb : World} {B : Nat} {w : World} {ops : Array Oper} {rest : List Oper} {o : Oper} {a : Act} {Q : Exit → Act → World → Prop} (hgd : o.guard = none) (sl x : Operand)
    (ho : o.op = .call { callee := .builtin .append, args := #[sl, x], argTypes := #[22, 22] })
    (v : Value) (l : List Int) (c : Int) (hsl : a.eval sl = v) (hS : St wb B w v l) (hx : a.eval x = .slice (some ⟨w.heap.size, 0, none⟩) 1 1) (hl : l.length + 1 ≤ 140737488355328)
    (h : ∀ v' w', St wb B w' v' (l ++ [c]) → wpList Try.prog ops Q rest (a.put o.dst v') w') : wpList Try.prog ops Q (o :: rest) a (w.alloc (.cells #[.int .u8 c] 5)) := by
  obtain ⟨i0, hi, hz0, hz1, hz2⟩ := info_parts info5
  refine wpList_append_own _ hgd sl x 22 ho B 5 i0 (.int .u8 0) 1 1 Try.underlying22 hi hz0 hz1 hz2 rfl (by decide) v l.length (cz l) hsl (hS.own.alloc _) ⟨w.heap.size, 0, none⟩ 1 1 [.int .u8 c] hx rfl
    (by intro j u' hj; match j, hj with | 0, hj => simp at hj; subst hj; simp [Addr.add]) (by intro u' hu'; simp at hu'; subst hu'; rfl) (by unfold maxLen; omega) (by omega) (by have := hS.sz; simp; omega) ?_
  intro v' w' h1 h2 _
  have e1 : cz l ++ [Value.int .u8 c] = cz (l ++ [c]) := by simp [cz]
  have e : l.length + 1 = (l ++ [c]).length := by simp
  rw [e1, e] at h1
  exact h v' w' ((hS.alloc _).next h1 h2)

theorem take_next {l : List Int} {k : Nat} (h : k < l.length) : l.take (k + 1) = l.take k ++ [l.getD k 0] := by
  rw [List.take_succ_eq_append_getElem h]; simp [h]

set_option maxHeartbeats 1600000 in
theorem cat8 (a0 : Option Addr) (n0 c0 : Nat) (z0 : List Int) (a1 : Option Addr) (n1 c1 : Nat) (z1 : List Int) (w : World) (hn0 : n0 ≤ 1048577) (hn1 : n1 ≤ 1048577) (h0 : Has w a0 n0 z0) (h1 : Has w a1 n1 z1) :
    Calls Try.prog 8 #[.slice a0 n0 c0, .slice a1 n1 c1] w fun e w' => ∃ v, e = .returned v ∧ St w w.heap.size w' v (z0 ++ z1) := by
  obtain ⟨l0, h0⟩ := h0
  obtain ⟨l1, h1⟩ := h1
  have H0 := Lib.hid h0
  have H1 := Lib.hid h1
  have L0 := Lib.hid l0
  have L1 := Lib.hid l1
  clear h0 h1 l0 l1
  obtain ⟨i0, hi, hz0, hz1, hz2⟩ := info_parts info5
  go_enter Try.func8, Try.ntmps8
  go_wp2_with (at_make; refine wpList_make_own _ rfl _ _ 22 rfl w.heap.size 5 i0 (.int .u8 0) 1 Try.underlying22 hi hz0 hz1 .i64 .i64 ((n0 : Int) + (n1 : Int)) (n0 + n1) rfl rfl (by omega) (by rw [hz2]; omega) (by unfold maxLen; omega) (Nat.le_refl _) ?_; intro w1 hown1 hg1)
  have S1 : St w w.heap.size w1 (.slice (some ⟨w.heap.size, 0, none⟩) 0 (n0 + n1)) [] := ⟨hown1, Below.grown (Below.refl _ _) hg1 (Nat.le_refl _) (by intro k hk; cases hk), Nat.le_refl _⟩
  clear hown1 hg1
  go_loopw [5, 6] (fun v i wr => ∃ k : Nat, k ≤ n0 ∧ i = .int .i64 k ∧ St w w.heap.size wr v (z0.take k)) (fun _ i _ => n0 - (intOf i).toNat)
  case atStart => exact ⟨0, Nat.zero_le _, rfl, by simpa using S1⟩
  case round =>
    obtain ⟨k, hk, rfl, S⟩ := hrel
    by_cases hlt : k < n0
    · obtain ⟨b, o, hae, hb, hc⟩ := H0.out (by omega)
      subst hae
      have hck := (S.bel.cell (p := ⟨b, o + k, none⟩) hb).trans (hc k hlt)
      have htn := take_next (l := z0) (k := k) (by rw [L0.out]; exact hlt)
      have hlen : (z0.take k).length ≤ k := List.length_take_le _ _
      generalize z0.getD k 0 = x at hck htn
      generalize z0.take k = T at S htn hlen
      have HT := Lib.hid htn
      clear htn hc S1
      go_wp2_with (at_builtin; refine wpList_app1 rfl _ _ rfl u5 T x rfl S rfl (by omega) ?_; intro v2 w2 S2)
      go_roundw
      case rel => exact ⟨k + 1, by omega, by go_num, by rw [HT.out]; exact S2⟩
      case measure => simp [intOf]; omega
    · have e0 : z0.take k = z0 := List.take_of_length_le (by rw [L0.out]; omega)
      rw [e0] at S
      clear e0 S1
      go_wp2
      go_loopw [5, 7] (fun v i wr => ∃ k : Nat, k ≤ n1 ∧ i = .int .i64 k ∧ St w w.heap.size wr v (z0 ++ z1.take k)) (fun _ i _ => n1 - (intOf i).toNat)
      case atStart => exact ⟨0, Nat.zero_le _, rfl, by simpa using S⟩
      case round =>
        obtain ⟨j, hj, rfl, S2⟩ := hrel
        by_cases hlt2 : j < n1
        · obtain ⟨b, o, hae, hb, hc⟩ := H1.out (by omega)
          subst hae
          have hck := (S2.bel.cell (p := ⟨b, o + j, none⟩) hb).trans (hc j hlt2)
          have htn := take_next (l := z1) (k := j) (by rw [L1.out]; exact hlt2)
          have hlen : (z0 ++ z1.take j).length ≤ 3000000 := by have := List.length_take_le j z1; have := L0.out; simp; omega
          have hnx : z0 ++ z1.take (j + 1) = z0 ++ z1.take j ++ [z1.getD j 0] := by rw [htn, List.append_assoc]
          clear htn
          generalize z1.getD j 0 = x at hck hnx
          generalize z0 ++ z1.take j = T at S2 hnx hlen
          have HT := Lib.hid hnx
          clear hnx hc S
          go_wp2_with (at_builtin; refine wpList_app1 rfl _ _ rfl u5 T x rfl S2 rfl (by omega) ?_; intro v3 w3 S3)
          go_roundw
          case rel => exact ⟨j + 1, by omega, by go_num, by rw [HT.out]; exact S3⟩
          case measure => simp [intOf]; omega
        · have e0 : z1.take j = z1 := List.take_of_length_le (by rw [L1.out]; omega)
          rw [e0] at S2
          go_wp2
          go_ret
          exact ⟨_, rfl, S2⟩

/-- what zzCat hands back, in one shape: it is read like any other slice -/
theorem cat8' (a0 : Option Addr) (n0 c0 : Nat) (z0 : List Int) (a1 : Option Addr) (n1 c1 : Nat) (z1 : List Int) (w : World) (hn0 : n0 ≤ 1048577) (hn1 : n1 ≤ 1048577) (h0 : Has w a0 n0 z0) (h1 : Has w a1 n1 z1) :
    Calls Try.prog 8 #[.slice a0 n0 c0, .slice a1 n1 c1] w fun e w' => ∃ (ad : Option Addr) (m c : Nat) (T : List Int), e = .returned (.slice ad m c) ∧ Hid (T = z0 ++ z1) ∧ m ≤ 2097152 + 2 ∧ Has w' ad m T ∧ Below w.heap.size w w' := by
  have e0 := h0.1
  have e1 := h1.1
  refine (cat8 a0 n0 c0 z0 a1 n1 c1 z1 w hn0 hn1 h0 h1).mono ?_
  rintro e w' ⟨v, rfl, S⟩
  have ho := S.own
  rcases S.own.2 with ⟨rfl, h⟩ | ⟨g, cap, cur, rfl, hg, hh, _⟩
  · have hz : z0 ++ z1 = [] := List.eq_nil_of_length_eq_zero h
    exact ⟨none, 0, 0, [], rfl, hz.symm, by omega, ⟨rfl, fun h => by omega⟩, S.bel⟩
  · refine ⟨some ⟨g, 0, none⟩, _, cap, z0 ++ z1, rfl, rfl, by simp; omega, ⟨rfl, fun _ => ⟨g, 0, rfl, (Array.getElem?_eq_some_iff.1 hh).1, fun j hj => ?_⟩⟩, S.bel⟩
    rw [Nat.zero_add, ho.cellAt j (by omega)]
    exact cz_get _ j hj

end Go.Proofs.Qxb6631243a
