/-
  ppmAppendDec (function 12): the decimal numeral, digit by digit from the back.
-/
import Derived.Test.Qxb6630465aDoorPpm
import Derived.Lib.ItoaMem
namespace Go.Proofs.Qxb6630465aDoor
open Go.RowKit

/-- the digits of u, none for 0 -/
def dgs (u : Nat) : List Int := if u = 0 then [] else bz (Lib.decDigits u)
theorem dgs_zero : dgs 0 = [] := rfl
theorem dgs_step {u : Nat} (h : 0 < u) : dgs u = dgs (u / 10) ++ [(48 : Int) + (u : Int) % 10] := by
  have e1 : dgs u = bz (Lib.decDigits u) := by unfold dgs; rw [if_neg (by omega)]
  have hb : ∀ d : Nat, d < 10 → (((UInt8.ofNat (48 + d)).toNat : Nat) : Int) = 48 + (d : Int) := by
    intro d hd
    simp only [UInt8.toNat_ofNat']
    omega
  rw [e1, Lib.decDigits]
  split
  · rename_i h10
    have e2 : u / 10 = 0 := by omega
    rw [e2, dgs_zero]
    have := hb u h10
    simp only [bz, List.map_cons, List.map_nil, List.nil_append, this]
    congr 1; omega
  · rename_i h10
    have e2 : dgs (u / 10) = bz (Lib.decDigits (u / 10)) := by unfold dgs; rw [if_neg (by omega)]
    rw [e2]
    have := hb (u % 10) (by omega)
    simp only [bz, List.map_append, List.map_cons, List.map_nil, this]
    congr 2
theorem dgs_pos {u : Nat} (h : 0 < u) : 0 < (dgs u).length := by rw [dgs_step h]; simp
theorem dec_len {u : Nat} (h : u < 18446744073709551616) : (bz (Lib.decDigits u)).length ≤ 20 := by
  rw [bz_length, Lib.decDigits_length]; exact Lib.nDigits_le20 u h

/-- the last places of buf hold the digits that have come -/
def Buf (w : World) (bb k : Nat) (suf : List Int) : Prop :=
  ∃ cur : Array Value, w.heap[bb]? = some (.cells cur 39 (0, 0)) ∧ cur.size = 20 ∧ ∀ j, j < suf.length → cur[k + j]? = some (.int .u8 (suf.getD j 0))

theorem Buf.there {w : World} {bb k : Nat} {suf : List Int} (h : Buf w bb k suf) (i : Nat) (hi : i < 20) : (∃ u, w.cell? ⟨bb, i, none⟩ = some u) ∧ w.frozen? ⟨bb, i, none⟩ = false := by
  obtain ⟨cur, hh, hs, _⟩ := h
  exact ⟨⟨cur[i], by simp [World.cell?, hh]⟩, by simp [World.frozen?, hh]⟩

theorem Buf.put {w : World} {bb k : Nat} {suf : List Int} (h : Buf w bb (k + 1) suf) (hk : k + 1 + suf.length = 20) (c : Int) : Buf (w.setCell ⟨bb, k, none⟩ (.int .u8 c)) bb k (c :: suf) := by
  obtain ⟨cur, hh, hs, hc⟩ := h
  refine ⟨_, heap_setCell_same _ bb k _ 39 _ hh, by simpa using hs, fun j hj => ?_⟩
  cases j with
  | zero => rw [Nat.add_zero, Array.getElem?_setIfInBounds_self_of_lt (by omega)]; simp
  | succ j =>
    rw [Array.getElem?_setIfInBounds_ne (by omega)]
    have := hc j (by simpa using hj)
    have e : k + (j + 1) = k + 1 + j := by omega
    rw [e, this]; simp

theorem Buf.cells {w : World} {bb k : Nat} {suf : List Int} (h : Buf w bb k suf) (j : Nat) (u : Value) (hj : (cz suf)[j]? = some u) : w.cell? ((⟨bb, k, none⟩ : Addr).add j) = some u := by
  obtain ⟨cur, hh, hs, hc⟩ := h
  have hl : j < suf.length := by have := (List.getElem?_eq_some_iff.1 hj).1; simpa [cz] using this
  rw [cz_get _ _ hl] at hj
  cases hj
  rw [Addr.add_lit]
  simp [World.cell?, hh, hc j hl]

theorem St.setOther {wb : World} {B : Nat} {w : World} {v : Value} {l : List Int} (h : St wb B w v l) {bb i : Nat} {cur : Array Value} (hb : w.heap[bb]? = some (.cells cur 39 (0, 0))) (hB : B ≤ bb) (u : Value) : St wb B (w.setCell ⟨bb, i, none⟩ u) v l := by
  refine ⟨?_, h.bel.setCell (p := ⟨bb, i, none⟩) hB u, h.szb⟩
  obtain ⟨h1, h2⟩ := h.own
  refine ⟨h1, ?_⟩
  rcases h2 with h2 | ⟨g, cap, cur', hv, hg, hh, r⟩
  · exact .inl h2
  · refine .inr ⟨g, cap, cur', hv, hg, ?_, r⟩
    rw [heap_setCell_other _ _ _ _ (fun e => ?_)]
    · exact hh
    · simp only at e
      rw [e, hb] at hh
      cases hh

theorem run_slice39 (w : World) (bb k : Nat) (h : k < 20) : (Instr.sliceAt 39 (.pointer (some ⟨bb, 0, none⟩)) (some (.int .i64 k)) none none).run Tryd.prog w = .ok (.slice (some ⟨bb, k, none⟩) (20 - k) (20 - k)) w := by
  have hne : ¬ (20 = k) := by omega
  have hle : (k : Int) ≤ 20 := by omega
  simp [Instr.sliceAt, Instr.sureAddr, run_underlying Tryd.underlying39, Instr.sliceBounds, run_sliceBound, hne, hle, Addr.add_lit]

/-- what the loop's last round leaves, put behind the text -/
theorem wpList_appBuf {wb : World} {B : Nat} {w : World} {ops : Array Oper} {rest : List Oper} {o : Oper} {a : Act} {Q : Exit → Act → World → Prop} (hgd : o.guard = none) (sl x : Operand)
    (ho : o.op = .call { callee := .builtin .append, args := #[sl, x], argTypes := #[24, 24] })
    (v : Value) (l suf : List Int) (hsl : a.eval sl = v) (hS : St wb B w v l) (bb k m c : Nat) (hm : m = suf.length) (hx : a.eval x = .slice (some ⟨bb, k, none⟩) m c) (hB : Buf w bb k suf) (hl : l.length + suf.length ≤ 140737488355328)
    (h : ∀ v' w', St wb B w' v' (l ++ suf) → wpList Tryd.prog ops Q rest (a.put o.dst v') w') : wpList Tryd.prog ops Q (o :: rest) a w := by
  subst hm
  obtain ⟨i0, hi, hz0, hz1, hz2⟩ := info_parts info5
  refine wpList_append_own _ hgd sl x 24 ho B 5 i0 (.int .u8 0) 1 1 Tryd.underlying24 hi hz0 hz1 hz2 rfl (by decide) v l.length (cz l) hsl hS.own ⟨bb, k, none⟩ suf.length c (cz suf) hx (by simp [cz_length]) hB.cells (cz_one suf) (by unfold maxLen; omega) (by omega) hS.sz ?_
  intro v' w' h1 h2 _
  have e : l.length + suf.length = (l ++ suf).length := by simp
  rw [← cz_append, e] at h1
  exact h v' w' (hS.next h1 h2)

theorem wrap_neg_neg (m : Nat) (h : m ≤ 9223372036854775808) : IntKind.u64.wrap (-IntKind.u64.wrap (-(m : Int))) = (m : Int) := by
  simp only [IntKind.wrap, IntKind.signed, IntKind.bits, Bool.false_and, Bool.false_eq_true, if_false]
  omega

set_option maxHeartbeats 1600000 in
theorem dec12_pos (wb : World) (B : Nat) (v : Int) (h0 : 0 < v) (h1 : v ≤ 9223372036854775807) (sv : Value) (l : List Int) (w : World) (S : St wb B w sv l) (hl : l.length + 21 ≤ 140737488355328) :
    Calls Tryd.prog 12 #[sv, .int .i64 v] w fun e w' => ∃ v', e = .returned v' ∧ St wb B w' v' (l ++ bz (Lib.itoa v)) := by
  obtain ⟨m, rfl⟩ : ∃ m : Nat, v = (m : Int) := ⟨v.toNat, by omega⟩
  have hne : ((m : Int) == 0) = false := by simp; omega
  obtain ⟨DD, hDD⟩ : ∃ DD, DD = bz (Lib.decDigits m) := ⟨_, rfl⟩
  have HDD := Lib.hid hDD
  have HDL : Hid (DD.length ≤ 20) := by rw [hDD]; exact dec_len (by omega)
  have HDP : Hid (0 < DD.length) := by rw [hDD, bz_length, Lib.decDigits_length]; exact Lib.nDigits_pos m
  have HST : Hid (dgs m ++ [] = DD) := by show dgs m ++ [] = DD; rw [hDD]; unfold dgs; rw [if_neg (by omega)]; simp
  clear hDD
  go_enter Tryd.func12, Tryd.ntmps12
  go_wp2
  go_loopw [5, 7] (fun u k wr => ∃ (un kn : Nat) (suf : List Int), u = .int .u64 un ∧ k = .int .i64 kn ∧ un ≤ 9223372036854775808 ∧ kn + suf.length = 20 ∧ dgs un ++ suf = DD ∧ Buf wr w.heap.size kn suf ∧ St wb B wr sv l) (fun u _ _ => (intOf u).toNat)
  case atStart => exact ⟨m, 20, [], rfl, rfl, by omega, rfl, HST.out, ⟨_, heap_alloc_new _ _, rfl, fun j hj => by simp at hj⟩, S.alloc _⟩
  case round =>
    obtain ⟨un, kn, suf, rfl, rfl, hun, hkn, hdd, hbuf, S2⟩ := hrel
    by_cases hp : 0 < un
    · have hle : (dgs un).length + suf.length ≤ 20 := by rw [← List.length_append, hdd]; exact HDL.out
      have h1 := dgs_pos hp
      obtain ⟨k1, rfl⟩ : ∃ k1, kn = k1 + 1 := ⟨kn - 1, by omega⟩
      obtain ⟨⟨u0, hu0⟩, hf0⟩ := hbuf.there k1 (by omega)
      have hst := dgs_step hp
      have hnext : dgs (un / 10) ++ (((48 : Int) + (un : Int) % 10) :: suf) = DD := by rw [← hdd, hst]; simp
      have hput := hbuf.put (by omega) ((48 : Int) + (un : Int) % 10)
      have HB := Lib.hid hput
      have HN := Lib.hid hnext
      have hS2 : ∀ u, St wb B (wr.setCell ⟨w.heap.size, k1, none⟩ u) sv l := by
        obtain ⟨cur, hh, _⟩ := hbuf
        exact fun u => S2.setOther hh (by have := S.sz; omega) u
      have HS := Lib.hid hS2
      have hk20 : k1 < 20 := by omega
      clear hput hnext hst hle h1 hS2 hbuf S2 hdd
      go_wp2
      go_roundw
      case rel => exact ⟨un / 10, k1, _, by go_num, by go_num, by omega, by simp; omega, HN.out, HB.out, HS.out _⟩
      case measure => simp [intOf]; omega
    · have hu0 : un = 0 := by omega
      subst hu0
      rw [dgs_zero, List.nil_append] at hdd
      have hs1 : 0 < suf.length := by rw [hdd]; exact HDP.out
      have hs2 : suf.length ≤ 20 := by omega
      have HD := Lib.hid hdd
      clear hdd
      have hsl := run_slice39 wr w.heap.size kn (by omega)
      go_wp2_with (at_builtin; refine wpList_appBuf rfl _ _ rfl _ _ suf rfl S2 w.heap.size kn (20 - kn) (20 - kn) (by omega) rfl hbuf (by omega) ?_; intro v9 w9 S9)
      go_ret
      rw [HD.out] at S9
      rw [HDD.out, ← Lib.itoa_nonneg] at S9
      exact ⟨_, rfl, S9⟩

set_option maxHeartbeats 1600000 in
theorem dec12_zero (wb : World) (B : Nat) (v : Int) (h0 : v = 0) (sv : Value) (l : List Int) (w : World) (S : St wb B w sv l) (hl : l.length + 21 ≤ 140737488355328) :
    Calls Tryd.prog 12 #[sv, .int .i64 v] w fun e w' => ∃ v', e = .returned v' ∧ St wb B w' v' (l ++ bz (Lib.itoa v)) := by
  subst h0
  obtain ⟨DD, hDD⟩ : ∃ DD, DD = bz (Lib.decDigits 0) := ⟨_, rfl⟩
  have HDD := Lib.hid hDD
  have HDL : Hid (DD.length ≤ 20) := by rw [hDD]; exact dec_len (by omega)
  have HDP : Hid (0 < DD.length) := by rw [hDD, bz_length, Lib.decDigits_length]; exact Lib.nDigits_pos 0
  have HST : Hid (dgs 0 ++ [48] = DD) := by show dgs 0 ++ [48] = DD; rw [hDD, Lib.decDigits_one (by omega)]; rfl
  clear hDD
  go_enter Tryd.func12, Tryd.ntmps12
  go_wp2
  go_loopw [5, 7] (fun u k wr => ∃ (un kn : Nat) (suf : List Int), u = .int .u64 un ∧ k = .int .i64 kn ∧ un ≤ 9223372036854775808 ∧ kn + suf.length = 20 ∧ dgs un ++ suf = DD ∧ Buf wr w.heap.size kn suf ∧ St wb B wr sv l) (fun u _ _ => (intOf u).toNat)
  case atStart => exact ⟨0, 19, [48], rfl, rfl, by omega, rfl, HST.out, ⟨_, heap_alloc_new _ _, rfl, fun j hj => by simp at hj; subst hj; rfl⟩, S.alloc _⟩
  case round =>
    obtain ⟨un, kn, suf, rfl, rfl, hun, hkn, hdd, hbuf, S2⟩ := hrel
    by_cases hp : 0 < un
    · have hle : (dgs un).length + suf.length ≤ 20 := by rw [← List.length_append, hdd]; exact HDL.out
      have h1 := dgs_pos hp
      obtain ⟨k1, rfl⟩ : ∃ k1, kn = k1 + 1 := ⟨kn - 1, by omega⟩
      obtain ⟨⟨u0, hu0⟩, hf0⟩ := hbuf.there k1 (by omega)
      have hst := dgs_step hp
      have hnext : dgs (un / 10) ++ (((48 : Int) + (un : Int) % 10) :: suf) = DD := by rw [← hdd, hst]; simp
      have hput := hbuf.put (by omega) ((48 : Int) + (un : Int) % 10)
      have HB := Lib.hid hput
      have HN := Lib.hid hnext
      have hS2 : ∀ u, St wb B (wr.setCell ⟨w.heap.size, k1, none⟩ u) sv l := by
        obtain ⟨cur, hh, _⟩ := hbuf
        exact fun u => S2.setOther hh (by have := S.sz; omega) u
      have HS := Lib.hid hS2
      have hk20 : k1 < 20 := by omega
      clear hput hnext hst hle h1 hS2 hbuf S2 hdd
      go_wp2
      go_roundw
      case rel => exact ⟨un / 10, k1, _, by go_num, by go_num, by omega, by simp; omega, HN.out, HB.out, HS.out _⟩
      case measure => simp [intOf]; omega
    · have hu0 : un = 0 := by omega
      subst hu0
      rw [dgs_zero, List.nil_append] at hdd
      have hs1 : 0 < suf.length := by rw [hdd]; exact HDP.out
      have hs2 : suf.length ≤ 20 := by omega
      have HD := Lib.hid hdd
      clear hdd
      have hsl := run_slice39 wr w.heap.size kn (by omega)
      go_wp2_with (at_builtin; refine wpList_appBuf rfl _ _ rfl _ _ suf rfl S2 w.heap.size kn (20 - kn) (20 - kn) (by omega) rfl hbuf (by omega) ?_; intro v9 w9 S9)
      go_ret
      rw [HD.out] at S9
      rw [HDD.out, ← Lib.itoa_nonneg] at S9
      exact ⟨_, rfl, S9⟩

set_option maxHeartbeats 1600000 in
theorem dec12_neg (wb : World) (B : Nat) (v : Int) (h0 : v < 0) (h1 : -9223372036854775808 ≤ v) (sv : Value) (l : List Int) (w : World) (S : St wb B w sv l) (hl : l.length + 21 ≤ 140737488355328) :
    Calls Tryd.prog 12 #[sv, .int .i64 v] w fun e w' => ∃ v', e = .returned v' ∧ St wb B w' v' (l ++ bz (Lib.itoa v)) := by
  obtain ⟨m, rfl⟩ : ∃ m : Nat, v = -(m : Int) := ⟨(-v).toNat, by omega⟩
  have hm1 : 0 < m := by omega
  have hm2 : m ≤ 9223372036854775808 := by omega
  have hwr : IntKind.u64.wrap (-IntKind.u64.wrap (-(m : Int))) = (m : Int) := wrap_neg_neg m hm2
  have hne : ((m : Int) == 0) = false := by simp; omega
  obtain ⟨DD, hDD⟩ : ∃ DD, DD = bz (Lib.decDigits m) := ⟨_, rfl⟩
  have HDD := Lib.hid hDD
  have HDL : Hid (DD.length ≤ 20) := by rw [hDD]; exact dec_len (by omega)
  have HDP : Hid (0 < DD.length) := by rw [hDD, bz_length, Lib.decDigits_length]; exact Lib.nDigits_pos m
  have HST : Hid (dgs m ++ [] = DD) := by show dgs m ++ [] = DD; rw [hDD]; unfold dgs; rw [if_neg (by omega)]; simp
  clear hDD
  go_enter Tryd.func12, Tryd.ntmps12
  go_wp2_with (at_builtin; refine wpList_app1 rfl _ _ rfl sv _ 45 rfl S rfl (by omega) ?_; intro v3 w3 S3 _)
  go_loopw [5, 7] (fun u k wr => ∃ (un kn : Nat) (suf : List Int), u = .int .u64 un ∧ k = .int .i64 kn ∧ un ≤ 9223372036854775808 ∧ kn + suf.length = 20 ∧ dgs un ++ suf = DD ∧ Buf wr w3.heap.size kn suf ∧ St wb B wr v3 (l ++ [45])) (fun u _ _ => (intOf u).toNat)
  case atStart => exact ⟨m, 20, [], rfl, rfl, by omega, rfl, HST.out, ⟨_, heap_alloc_new _ _, rfl, fun j hj => by simp at hj⟩, S3.alloc _⟩
  case round =>
    obtain ⟨un, kn, suf, rfl, rfl, hun, hkn, hdd, hbuf, S2⟩ := hrel
    by_cases hp : 0 < un
    · have hle : (dgs un).length + suf.length ≤ 20 := by rw [← List.length_append, hdd]; exact HDL.out
      have h1 := dgs_pos hp
      obtain ⟨k1, rfl⟩ : ∃ k1, kn = k1 + 1 := ⟨kn - 1, by omega⟩
      obtain ⟨⟨u0, hu0⟩, hf0⟩ := hbuf.there k1 (by omega)
      have hst := dgs_step hp
      have hnext : dgs (un / 10) ++ (((48 : Int) + (un : Int) % 10) :: suf) = DD := by rw [← hdd, hst]; simp
      have hput := hbuf.put (by omega) ((48 : Int) + (un : Int) % 10)
      have HB := Lib.hid hput
      have HN := Lib.hid hnext
      have hS2 : ∀ u, St wb B (wr.setCell ⟨w3.heap.size, k1, none⟩ u) v3 (l ++ [45]) := by
        obtain ⟨cur, hh, _⟩ := hbuf
        exact fun u => S2.setOther hh (by have := S3.sz; omega) u
      have HS := Lib.hid hS2
      have hk20 : k1 < 20 := by omega
      clear hput hnext hst hle h1 hS2 hbuf S2 hdd
      go_wp2
      go_roundw
      case rel => exact ⟨un / 10, k1, _, by go_num, by go_num, by omega, by simp; omega, HN.out, HB.out, HS.out _⟩
      case measure => simp [intOf]; omega
    · have hu0 : un = 0 := by omega
      subst hu0
      rw [dgs_zero, List.nil_append] at hdd
      have hs1 : 0 < suf.length := by rw [hdd]; exact HDP.out
      have hs2 : suf.length ≤ 20 := by omega
      have HD := Lib.hid hdd
      clear hdd
      have hsl := run_slice39 wr w3.heap.size kn (by omega)
      go_wp2_with (at_builtin; refine wpList_appBuf rfl _ _ rfl _ _ suf rfl S2 w3.heap.size kn (20 - kn) (20 - kn) (by omega) rfl hbuf (by simp; omega) ?_; intro v9 w9 S9)
      go_ret
      rw [HD.out] at S9
      refine ⟨_, rfl, ?_⟩
      rw [Lib.itoa_neg m hm1]
      have e : l ++ bz (45 :: Lib.decDigits m) = l ++ [45] ++ DD := by rw [HDD.out]; simp [bz]
      rw [e]; exact S9

/-- ppmAppendDec -/
theorem dec12 (wb : World) (B : Nat) (v : Int) (hv : InI v) (sv : Value) (l : List Int) (w : World) (S : St wb B w sv l) (hl : l.length + 21 ≤ 140737488355328) :
    Calls Tryd.prog 12 #[sv, .int .i64 v] w fun e w' => ∃ v', e = .returned v' ∧ St wb B w' v' (l ++ bz (Lib.itoa v)) := by
  rcases (show v < 0 ∨ v = 0 ∨ 0 < v from by omega) with h | h | h
  · exact dec12_neg wb B v h hv.1 sv l w S hl
  · exact dec12_zero wb B v h sv l w S hl
  · exact dec12_pos wb B v h hv.2 sv l w S hl

end Go.Proofs.Qxb6630465aDoor
