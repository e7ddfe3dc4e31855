/-
  (Map).AppendPPM (function 9).
-/
import Derived.Test.Qxb6630465aDoorHills
import Derived.Test.Qxb6630465aDoorFull
import Derived.Lib.AppendIntMem
import Derived.Lib.ItoaLen
import Derived.Lib.Hide
import Derived.BigRegion
import Derived.BigQuiet
import Derived.Deep.QuietTactic
namespace Go.Proofs.Qxb6630465aDoor
open Go.RowKit Go.Maps

/-! ### the text, as plain numbers -/
def bz (l : List UInt8) : List Int := l.map fun c => (c.toNat : Int)
theorem byteCells_eq (l : List UInt8) : Lib.byteCells l = cz (bz l) := by simp [Lib.byteCells, cz, bz]
theorem strCells_eq (l : List UInt8) : Lib.strCells ⟨l.toArray⟩ = cz (bz l) := by simp [Lib.strCells, cz, bz]
theorem bz_length (l : List UInt8) : (bz l).length = l.length := by simp [bz]

def hdr (W H : Int) : List Int := [80, 51, 10] ++ bz (Lib.itoa W) ++ [32] ++ bz (Lib.itoa H) ++ [10] ++ [50, 53, 53, 10]
def pxWater : List Int := [48, 32, 48, 32, 50, 53, 53]
def pxHill : List Int := [50, 53, 53, 32, 48, 32, 48]
def pxNone : List Int := [50, 53, 53, 32, 50, 53, 53, 32, 50, 53, 53]
/-- the end of the pixel's text: a line end behind the last of a row and behind each fifth -/
def pxEnd (W x : Int) : Int := if x = W - 1 ∨ x % 5 = 4 then 10 else 32
def pxCol (W : Int) (ps : List (Int × Int)) (wat : List Bool) (k : Nat) : List Int :=
  if wat.getD k false = true then pxWater else if ((k : Int) % W, (k : Int) / W) ∈ ps then pxHill else pxNone
def pix (W : Int) (ps : List (Int × Int)) (wat : List Bool) (k : Nat) : List Int := pxCol W ps wat k ++ [pxEnd W ((k : Int) % W)]
def body (W : Int) (ps : List (Int × Int)) (wat : List Bool) : Nat → List Int
  | 0 => []
  | k + 1 => body W ps wat k ++ pix W ps wat k
def pts (xs ys : List Int) (n : Nat) : List (Int × Int) := (List.range n).map fun j => (xs.getD j 0, ys.getD j 0)
theorem pts_succ (xs ys : List Int) (n : Nat) : pts xs ys (n + 1) = pts xs ys n ++ [(xs.getD n 0, ys.getD n 0)] := by
  simp [pts, List.range_succ]

theorem pxCol_le (W : Int) (ps : List (Int × Int)) (wat : List Bool) (k : Nat) : (pxCol W ps wat k).length ≤ 11 := by
  unfold pxCol; split
  · simp [pxWater]
  · split
    · simp [pxHill]
    · simp [pxNone]
theorem body_le (W : Int) (ps : List (Int × Int)) (wat : List Bool) : ∀ k, (body W ps wat k).length ≤ 12 * k
  | 0 => by simp [body]
  | k + 1 => by
    have := body_le W ps wat k
    have := pxCol_le W ps wat k
    simp [body, pix]
    omega
theorem pxCol_water {W : Int} {ps : List (Int × Int)} {wat : List Bool} {k : Nat} (h : true = wat.getD k false) : pxCol W ps wat k = pxWater := by
  unfold pxCol; rw [← h]; rfl
theorem pxCol_hill {W : Int} {ps : List (Int × Int)} {wat : List Bool} {k : Nat} (h : false = wat.getD k false) (h2 : true = decide (((k : Int) % W, (k : Int) / W) ∈ ps)) : pxCol W ps wat k = pxHill := by
  have h2' : ((k : Int) % W, (k : Int) / W) ∈ ps := of_decide_eq_true h2.symm
  unfold pxCol; rw [← h, if_neg (by simp), if_pos h2']
theorem pxCol_none {W : Int} {ps : List (Int × Int)} {wat : List Bool} {k : Nat} (h : false = wat.getD k false) (h2 : false = decide (((k : Int) % W, (k : Int) / W) ∈ ps)) : pxCol W ps wat k = pxNone := by
  have h2' : ¬ ((k : Int) % W, (k : Int) / W) ∈ ps := of_decide_eq_false h2.symm
  unfold pxCol; rw [← h, if_neg (by simp), if_neg h2']
theorem pxEnd_cases (W x : Int) : ((x == W - 1) = true ∧ pxEnd W x = 10) ∨ ((x == W - 1) = false ∧ (x % 5 == 4) = true ∧ pxEnd W x = 10) ∨ ((x == W - 1) = false ∧ (x % 5 == 4) = false ∧ pxEnd W x = 32) := by
  by_cases e1 : x = W - 1
  · exact .inl ⟨by simpa using e1, by rw [pxEnd, if_pos (.inl e1)]⟩
  · by_cases e2 : x % 5 = 4
    · exact .inr (.inl ⟨by simpa using e1, by simpa using e2, by rw [pxEnd, if_pos (.inr e2)]⟩)
    · exact .inr (.inr ⟨by simpa using e1, by simpa using e2, by rw [pxEnd, if_neg (by omega)]⟩)
theorem body_next {W : Int} {ps : List (Int × Int)} {wat : List Bool} {k : Nat} {l l8 : List Int} {c : Int} (h : l ++ body W ps wat k ++ pxCol W ps wat k = l8) (hc : pxEnd W ((k : Int) % W) = c) : l ++ body W ps wat (k + 1) = l8 ++ [c] := by
  rw [← h, ← hc]; simp [body, pix]
theorem hdr_le (W H : Int) (hW : InI W) (hH : InI H) : (hdr W H).length ≤ 51 := by
  have := Lib.itoa_length_le W hW.1 hW.2
  have := Lib.itoa_length_le H hH.1 hH.2
  simp [hdr, bz_length]
  omega

theorem run_makeMap37 (n : Nat) (w : World) : (Instr.makeMap 37 (some (.int .i64 n))).run Tryd.prog w = .ok (.map (some w.heap.size)) (w.alloc (.map #[] 0)) := by
  simp [Instr.makeMap, run_underlying Tryd.underlying37, asInt, asIntOf]

theorem ownsRow_lower {w : World} {base base' : Nat} {e : TypeId} {size : Nat} {v : Value} {n : Nat} {xs : List Value} (h : w.ownsRow base e size v n xs) (hb : base' ≤ base) : w.ownsRow base' e size v n xs := by
  obtain ⟨h1, h2⟩ := h
  refine ⟨h1, ?_⟩
  rcases h2 with h2 | ⟨g, cap, cur, hv, hg, r⟩
  · exact .inl h2
  · exact .inr ⟨g, cap, cur, hv, Nat.le_trans hb hg, r⟩

/-- WHAT A BUILDER OF BYTES STANDS ON: v owns the numbers l in a row from B on; below B the world is as wb was. -/
structure St (wb : World) (B : Nat) (w : World) (v : Value) (l : List Int) : Prop where
  own : w.ownsRow B 5 1 v l.length (cz l)
  bel : Below B wb w
  szb : B ≤ wb.heap.size

theorem St.sz {wb : World} {B : Nat} {w : World} {v : Value} {l : List Int} (h : St wb B w v l) : B ≤ w.heap.size := Nat.le_trans h.szb h.bel.size

theorem St.alloc {wb : World} {B : Nat} {w : World} {v : Value} {l : List Int} (h : St wb B w v l) (o : Obj) : St wb B (w.alloc o) v l :=
  ⟨h.own.alloc o, h.bel.alloc h.sz o, h.szb⟩
theorem St.drew {wb : World} {B : Nat} {w : World} {v : Value} {l : List Int} (h : St wb B w v l) : St wb B w.drew v l := ⟨h.own.drew, h.bel.drew, h.szb⟩

theorem St.next {wb : World} {B : Nat} {w w' : World} {v v' : Value} {l l' : List Int} (h : St wb B w v l) (ho : w'.ownsRow B 5 1 v' l'.length (cz l')) (hg : w.grownBy w' v.ownBlock) : St wb B w' v' l' :=
  ⟨ho, h.bel.grown hg h.sz (fun k hk => (h.own.lt k hk).1), h.szb⟩

/-- a block that was laid behind the row's world is there still behind the append -/
theorem St.laid {wb : World} {B : Nat} {w w' : World} {v : Value} {l : List Int} (h : St wb B w v l) {o : Obj} (hg : (w.alloc o).drew.grownBy w' v.ownBlock) : w'.heap[w.heap.size]? = some o := by
  rw [hg.block w.heap.size (by simp) (fun e => by have := (h.own.lt _ e.symm).2; omega)]
  exact heap_alloc_new w o

/-- 'b = append(b, "..."...)' -/
theorem wpList_appS {wb : World} {B : Nat} {w : World} {ops : Array Oper} {rest : List Oper} {o : Oper} {a : Act} {Q : Exit → Act → World → Prop} (hgd : o.guard = none) (sl x : Operand)
    (ho : o.op = .call { callee := .builtin .append, args := #[sl, x], argTypes := #[24, 9] })
    (v : Value) (l : List Int) (hsl : a.eval sl = v) (hS : St wb B w v l) (bs : List UInt8) (hx : a.eval x = .string ⟨bs.toArray⟩) (hl : l.length + bs.length ≤ 140737488355328)
    (h : ∀ v' w', St wb B w' v' (l ++ bz bs) → w.grownBy w' v.ownBlock → wpList Tryd.prog ops Q rest (a.put o.dst v') w') : wpList Tryd.prog ops Q (o :: rest) a w := by
  obtain ⟨i0, hi, hz0, hz1, hz2⟩ := info_parts info5
  have hs : (⟨bs.toArray⟩ : ByteArray).size = bs.length := by simp [ByteArray.size]
  refine Lib.wpList_append_own_string w hgd sl x 24 9 ho B 5 i0 Tryd.underlying24 Tryd.underlying9 hi hz0 hz1 hz2 v l.length (cz l) hsl hS.own ⟨bs.toArray⟩ hx (by rw [hs]; unfold maxLen; omega) (by rw [hs]; exact hl) hS.sz ?_
  intro v' w' h1 h2 _
  rw [hs, strCells_eq, ← cz_append] at h1
  have e : l.length + bs.length = (l ++ bz bs).length := by simp [bz_length]
  rw [e] at h1
  exact h v' w' (hS.next h1 h2) h2

/-- 'b = append(b, c)': the one byte has been laid in a block of its own -/
theorem wpList_app1 {wb : World} {B : Nat} {w : World} {ops : Array Oper} {rest : List Oper} {o : Oper} {a : Act} {Q : Exit → Act → World → Prop} (hgd : o.guard = none) (sl x : Operand)
    (ho : o.op = .call { callee := .builtin .append, args := #[sl, x], argTypes := #[24, 24] })
    (v : Value) (l : List Int) (c : Int) (hsl : a.eval sl = v) (hS : St wb B w v l) (hx : a.eval x = .slice (some ⟨w.heap.size, 0, none⟩) 1 1) (hl : l.length + 1 ≤ 140737488355328)
    (h : ∀ v' w', St wb B w' v' (l ++ [c]) → (w.alloc (.cells #[.int .u8 c] 5)).grownBy w' v.ownBlock → wpList Tryd.prog ops Q rest (a.put o.dst v') w') : wpList Tryd.prog ops Q (o :: rest) a (w.alloc (.cells #[.int .u8 c] 5)) := by
  obtain ⟨i0, hi, hz0, hz1, hz2⟩ := info_parts info5
  refine wpList_append_own _ hgd sl x 24 ho B 5 i0 (.int .u8 0) 1 1 Tryd.underlying24 hi hz0 hz1 hz2 rfl (by decide) v l.length (cz l) hsl (hS.own.alloc _) ⟨w.heap.size, 0, none⟩ 1 1 [.int .u8 c] hx rfl
    (by intro j u' hj; match j, hj with | 0, hj => simp at hj; subst hj; simp [Addr.add]) (by intro u' hu'; simp at hu'; subst hu'; rfl) (by unfold maxLen; omega) (by omega) (by have := hS.sz; simp; omega) ?_
  intro v' w' h1 h2 _
  have e1 : cz l ++ [Value.int .u8 c] = cz (l ++ [c]) := by simp [cz]
  have e : l.length + 1 = (l ++ [c]).length := by simp
  rw [e1, e] at h1
  exact h v' w' ((hS.alloc _).next h1 h2) h2

/-- strconv.AppendInt at base 10, at this program (13): the shelf's contract, in these words. -/
def AppendIntC : Prop := ∀ (wb : World) (B : Nat) (i : Int), InI i → ∀ (v : Value) (l : List Int) (w : World), St wb B w v l → l.length + 21 ≤ 140737488355328 →
    Lib.TabBelow Tryd.prog B wb powName .u64 Lib.pow10Tab →
    Calls Tryd.prog 13 #[v, .int .i64 i, .int .i64 10] w fun e w' => ∃ v', e = .returned v' ∧ St wb B w' v' (l ++ bz (Lib.itoa i))

/-- What is told of a slice of bools that came in: its first n cells. -/
def HasB (w : World) (a : Option Addr) (n : Nat) (bs : List Bool) : Prop :=
  0 < n → ∃ b o, a = some ⟨b, o, none⟩ ∧ b < w.heap.size ∧ ∀ j, j < n → w.cell? ⟨b, o + j, none⟩ = some (.bool (bs.getD j false))

theorem HasB.below {w w' : World} {a : Option Addr} {n : Nat} {bs : List Bool} (h : HasB w a n bs) (hb : Below w.heap.size w w') : HasB w' a n bs := by
  intro hn
  obtain ⟨b, o, ha, hlt, hc⟩ := h hn
  exact ⟨b, o, ha, Nat.lt_of_lt_of_le hlt hb.size, fun j hj => (hb.cell (p := ⟨b, o + j, none⟩) hlt).trans (hc j hj)⟩

/-- The box of the receiver. -/
def boxM (W H : Int) (aw : Option Addr) (nw cw gh nh : Nat) : Obj := .cells #[.int .i64 W, .int .i64 H, .slice aw nw cw, .slice (some ⟨gh, 0, none⟩) nh nh] 29

set_option maxHeartbeats 1600000 in
theorem ppm9 (hAI : AppendIntC) (W H : Int) (hW : InI W) (hH : InI H) (aw : Option Addr) (nw cw gh nh : Nat) (hn : nw ≤ 65536) (hnh : nh ≤ 65536) (bv : Value) (zs : List Int) (hz : zs.length ≤ 65536) (xs ys : List Int) (wat : List Bool) (w : World)
    (hF : Full w bv zs) (hP : Pts w gh nh nh xs ys) (hgh : gh < w.heap.size) (hxi : ∀ j, j < nh → InI (xs.getD j 0)) (hyi : ∀ j, j < nh → InI (ys.getD j 0)) (hB : HasB w aw nw wat) (hWp : 0 < nw → 0 < W)
    (hT : Lib.TabBelow Tryd.prog w.heap.size w powName .u64 Lib.pow10Tab) :
    Calls Tryd.prog 9 #[.agg #[.int .i64 W, .int .i64 H, .slice aw nw cw, .slice (some ⟨gh, 0, none⟩) nh nh], bv] w fun e w' =>
      ∃ v', e = .returned v' ∧ w'.ownsRow w.heap.size 5 1 v' (zs ++ hdr W H ++ body W (pts xs ys nh) wat nw).length (cz (zs ++ hdr W H ++ body W (pts xs ys nh) wat nw)) ∧ Below w.heap.size w w' := by
  obtain ⟨i0, hi, hz0, hz1, hz2⟩ := info_parts info5
  obtain ⟨wb, hwb⟩ : ∃ wb, wb = w.alloc (boxM W H aw nw cw gh nh) := ⟨_, rfl⟩
  have hbs : wb.heap.size = w.heap.size + 1 := by rw [hwb]; simp
  have hbw : Below w.heap.size w wb := by rw [hwb]; exact (Below.refl _ _).alloc (Nat.le_refl _) _
  have hTb : Lib.TabBelow Tryd.prog (w.heap.size + 1) wb powName .u64 Lib.pow10Tab := fun w' h' => hT w' (hbw.trans (h'.mono (Nat.le_succ _)))
  have hFb : Full wb bv zs := hF.below hbw
  have hszb : w.heap.size + 1 ≤ wb.heap.size := by omega
  have box : ∀ wx, Below (w.heap.size + 1) wb wx → wx.cell? ⟨w.heap.size, 0, none⟩ = some (.int .i64 W) ∧ wx.cell? ⟨w.heap.size, 1, none⟩ = some (.int .i64 H) ∧ wx.cell? ⟨w.heap.size, 2, none⟩ = some (.slice aw nw cw) ∧ wx.cell? ⟨w.heap.size, 3, none⟩ = some (.slice (some ⟨gh, 0, none⟩) nh nh) := by
    intro wx hb
    have hh : wx.heap[w.heap.size]? = some (boxM W H aw nw cw gh nh) := by rw [hb.block _ (Nat.lt_succ_self _), hwb]; exact heap_alloc_new _ _
    refine ⟨?_, ?_, ?_, ?_⟩ <;> simp [World.cell?, hh, boxM]
  have lW := Lib.itoa_length_le W hW.1 hW.2
  have lH := Lib.itoa_length_le H hH.1 hH.2
  go_enter Tryd.func9, Tryd.ntmps9
  go_wp2_with (at_builtin; refine wpList_append_full_string rfl _ _ 24 9 rfl 5 i0 Tryd.underlying24 Tryd.underlying9 hi hz0 hz1 hz2 bv zs rfl (by exact hwb ▸ hFb) _ rfl (by decide) (by show _ + 3 ≤ _; omega) ?_; intro v1 w1 hown1 hg1; refine Hid.out ?_)
  refine Lib.hid ?_
  -- b = "P3\n"
  have S1 : St wb (w.heap.size + 1) w1 v1 (zs ++ [80, 51, 10]) := by
    refine ⟨?_, ?_, hszb⟩
    · have := hown1
      have e1 : cz zs ++ Lib.strCells { data := #[80, 51, 10] } = cz (zs ++ [80, 51, 10]) := by rw [cz_append]; rfl
      have e2 : zs.length + ({ data := #[80, 51, 10] } : ByteArray).size = (zs ++ [80, 51, 10]).length := by simp; rfl
      rw [e1, e2] at this
      simpa using this
    · rw [hwb]; exact Below.grown (Below.refl _ _) hg1 (by simp) (by intro k hk; cases hk)
  clear hown1 hg1
  obtain ⟨c0, c1, c2, c3⟩ := box w1 S1.bel
  go_wp2_with (go_at_call 13; refine (hAI wb (w.heap.size + 1) W hW v1 _ w1 S1 (by simp; omega) hTb).mono ?_; rintro e w2 ⟨v2, rfl, S2⟩; refine Hid.out ?_)
  refine Lib.hid ?_
  clear c0 c1 c2 c3 S1
  go_wp2_with (at_builtin; refine wpList_app1 rfl _ _ rfl v2 _ 32 rfl S2 rfl (by simp [bz_length]; omega) ?_; intro v3 w3 S3 _; refine Hid.out ?_)
  refine Lib.hid ?_
  clear S2
  obtain ⟨c0, c1, c2, c3⟩ := box w3 S3.bel
  go_wp2_with (go_at_call 13; refine (hAI wb (w.heap.size + 1) H hH v3 _ w3 S3 (by simp [bz_length]; omega) hTb).mono ?_; rintro e w4 ⟨v4, rfl, S4⟩; refine Hid.out ?_)
  refine Lib.hid ?_
  clear c0 c1 c2 c3 S3
  go_wp2_with (at_builtin; refine wpList_app1 rfl _ _ rfl v4 _ 10 rfl S4 rfl (by simp [bz_length]; omega) ?_; intro v5 w5 S5 _; refine Hid.out ?_)
  refine Lib.hid ?_
  clear S4
  go_wp2_with (at_builtin; refine wpList_appS rfl _ _ rfl v5 _ rfl S5 [50, 53, 53, 10] rfl (by simp [bz_length]; omega) ?_; intro v6 w6 S6 _; refine Hid.out ?_)
  refine Lib.hid ?_
  clear S5
  have S6' : St wb (w.heap.size + 1) w6 v6 (zs ++ hdr W H) := by
    have e : zs ++ [80, 51, 10] ++ bz (Lib.itoa W) ++ [32] ++ bz (Lib.itoa H) ++ [10] ++ bz [50, 53, 53, 10] = zs ++ hdr W H := by simp [hdr, bz]
    rw [← e]; exact S6
  clear S6
  have hll := hdr_le W H hW hH
  have hl6 : (zs ++ hdr W H).length ≤ 65536 + 51 := by simp; omega
  obtain ⟨l6, hl6e⟩ : ∃ l6, l6 = zs ++ hdr W H := ⟨_, rfl⟩
  rw [← hl6e] at S6' hl6
  have HL6 := Lib.hid hl6e
  clear hl6e hFb lW lH hll
  obtain ⟨c0, c1, c2, c3⟩ := box w6 S6'.bel
  have hmm := run_makeMap37 nh
  have hz6 : w.heap.size < w6.heap.size := S6'.sz
  go_wp2
  clear hmm c0 c1 c2 c3
  have M0 := hillMap_made w6
  have S7 := S6'.alloc (.map #[] 0)
  have hcx : ∀ wx, Below (w.heap.size + 1) wb wx → ∀ j, j < nh → wx.cell? ⟨gh, j * 2, none⟩ = some (.int .i64 (xs.getD j 0)) ∧ wx.cell? ⟨gh, j * 2 + 1, none⟩ = some (.int .i64 (ys.getD j 0)) := by
    intro wx hb j hj
    have h1 := hP.cells j hj
    have hb' : Below w.heap.size w wx := hbw.trans (hb.mono (Nat.le_succ _))
    exact ⟨(hb'.cell (p := ⟨gh, j * 2, none⟩) hgh).trans h1.1, (hb'.cell (p := ⟨gh, j * 2 + 1, none⟩) hgh).trans h1.2⟩
  go_loopw [34] (fun i wr => ∃ (k : Nat) (D : DataW Unit), k ≤ nh ∧ i = .int .i64 k ∧ St wb (w.heap.size + 1) wr v6 l6 ∧ HillMap wr w6.heap.size k (pts xs ys k) D)
    (fun i _ => nh - (intOf i).toNat)
  case atStart => exact ⟨0, _, Nat.zero_le _, rfl, S7, M0⟩
  case round =>
    obtain ⟨k, D, hk, rfl, S, M⟩ := hrel
    by_cases hlt : k < nh
    · obtain ⟨c0, c1⟩ := hcx wr S.bel k hlt
      have ix := hxi k hlt
      have iy := hyi k hlt
      have hp : pts xs ys (k + 1) = pts xs ys k ++ [(xs.getD k 0, ys.getD k 0)] := pts_succ xs ys k
      generalize xs.getD k 0 = px at c0 ix hp
      generalize ys.getD k 0 = py at c1 iy hp
      have hkey : keyOf Tryd.prog 34 (.agg #[.int .i64 px, .int .i64 py]) = some (kl px py) := keyOf_pt ix iy
      have HP := Lib.hid hp
      clear hcx hxi hyi S7 M0 S6' hp hP hT hTb
      go_wp2_with (at_mapUpdate; go_loud (refine wpList_mapUpdate_own _ rfl _ _ _ 37 rfl 34 4 keyed34 Tryd.underlying37 _ w6.heap.size k D rfl (M.1.alloc _) (by unfold maxLen; omega) _ _ (kl px py) rfl rfl hkey _ [] (plainElem_bool Tryd.underlying4 true) ?_); intro w8 hown8 hg8)
      go_roundw
      case rel =>
        refine ⟨k + 1, D.put (kl px py) (.lit (.bool true)), by omega, by go_num, ?_, ?_⟩
        · exact ⟨(S.own.alloc _).kept hg8 (.inr (M.ne_row S.own).symm), (S.bel.alloc S.sz _).grown hg8 (by have := S.sz; simp; omega) (fun j hj => by cases hj; exact hz6), S.szb⟩
        · rw [HP.out]; exact M.put ix iy hown8
      case measure => simp [intOf]; omega
    · have hkn : k = nh := by omega
      subst hkn
      obtain ⟨c0, c1, c2, c3⟩ := box wr S.bel
      obtain ⟨ps, hps⟩ : ∃ ps, ps = pts xs ys k := ⟨_, rfl⟩
      rw [← hps] at M
      have HPS := Lib.hid hps
      clear hps hcx S7 M0 S6' hP hT hTb hxi hyi
      go_wp2
      clear c0 c1 c2 c3
      go_loopw [1, 44] (fun v i wr => ∃ j : Nat, j ≤ nw ∧ i = .int .i64 j ∧ St wb (w.heap.size + 1) wr v (l6 ++ body W ps wat j) ∧ HillMap wr w6.heap.size k ps D)
        (fun _ i _ => nw - (intOf i).toNat)
      case atStart => exact ⟨0, Nat.zero_le _, rfl, by simpa [body] using S, M⟩
      case round =>
        obtain ⟨j, hj, rfl, S, M⟩ := hrel
        by_cases hlt : j < nw
        · obtain ⟨bw, ow, hae, hbw1, hcw⟩ := hB (by omega)
          subst hae
          obtain ⟨c0, c1, c2, c3⟩ := box wr S.bel
          have cw := ((hbw.trans (S.bel.mono (Nat.le_succ _))).cell (p := ⟨bw, ow + j, none⟩) hbw1).trans (hcw j hlt)
          have hW0 : 0 < W := hWp (by omega)
          have hW1 : W ≤ 9223372036854775807 := hW.2
          have hWn : ¬ W = 0 := by omega
          have hzr : w.heap.size < wr.heap.size := S.sz
          clear hcw hB hWp
          obtain ⟨wt, hwt⟩ : ∃ c, c = wat.getD j false := ⟨_, rfl⟩
          rw [← hwt] at cw
          have HWT := Lib.hid hwt
          clear hwt
          have hm0 : 0 ≤ (j : Int) % W := Int.emod_nonneg _ hWn
          have hm1 : (j : Int) % W < W := Int.emod_lt_of_pos _ hW0
          have hd0 : 0 ≤ (j : Int) / W := Int.ediv_nonneg (by omega) (by omega)
          have hd1 : (j : Int) / W ≤ (j : Int) := Int.ediv_le_self _ (by omega)
          have hkey : keyOf Tryd.prog 34 (.agg #[.int .i64 ((j : Int) % W), .int .i64 ((j : Int) / W)]) = some (kl ((j : Int) % W) ((j : Int) / W)) := keyOf_pt ⟨by omega, by omega⟩ ⟨by omega, by omega⟩
          obtain ⟨hl, hhl⟩ : ∃ c, c = decide (((j : Int) % W, (j : Int) / W) ∈ ps) := ⟨_, rfl⟩
          have hat : D.atKey (kl ((j : Int) % W) ((j : Int) / W)) (.lit (.bool false)) = .lit (.bool hl) := by rw [hhl]; exact M.2.2 _ _ ⟨by omega, by omega⟩ ⟨by omega, by omega⟩
          have HHL := Lib.hid hhl
          clear hhl
          go_wp2
          go_region
          have hbl := body_le W ps wat j
          have hlen : (l6 ++ body W ps wat j).length ≤ 2000000 := by simp; omega
          cases wt
          · -- no water
            go_wp2_with (at_lookup; go_loud (refine wpList_lookup_own_bool _ rfl _ _ 37 rfl 34 4 keyed34 Tryd.underlying37 Tryd.underlying4 (zero4 _) w6.heap.size k D rfl ((M.alloc _).drew).1 _ _ rfl hkey hl hat ?_); refine Hid.out ?_)
            refine Lib.hid ?_
            cases hl
            · go_wp2_with (at_builtin; refine wpList_appS rfl _ _ rfl u1 _ rfl (S.alloc _).drew [50, 53, 53, 32, 50, 53, 53, 32, 50, 53, 53] rfl (by simp at hlen ⊢; omega) ?_; intro v8 w8 S8 g8; refine Hid.out ?_)
              refine Lib.hid ?_
              have S8' : St wb (w.heap.size + 1) w8 v8 (l6 ++ body W ps wat j ++ pxCol W ps wat j) := by
                rw [pxCol_none HWT.out HHL.out]; exact S8
              have hb8 := S.laid g8
              have M8 := ((M.alloc _).drew).kept g8 (M.ne_row S.own)
              have hq0 : w8.cell? ⟨wr.heap.size, 0, none⟩ = some (.int .i64 ((j : Int) % W)) := by simp [World.cell?, hb8]
              obtain ⟨c0, c1, c2, c3⟩ := box w8 S8.bel
              have hpc := pxCol_le W ps wat j
              have hlen8 : (l6 ++ body W ps wat j ++ pxCol W ps wat j).length ≤ 2000011 := by simp at hlen ⊢; omega
              clear S8 g8 hb8 hlen hbl hpc M S hat hkey
              generalize hl8 : l6 ++ body W ps wat j ++ pxCol W ps wat j = l8 at S8' hlen8
              have HL8 := Lib.hid hl8
              clear hl8
              rcases pxEnd_cases W ((j : Int) % W) with ⟨e1, hE⟩ | ⟨e1, e2, hE⟩ | ⟨e1, e2, hE⟩
              all_goals
                have HE := Lib.hid hE
                clear hE
              · go_wp2_with (at_builtin; refine wpList_app1 rfl _ _ rfl v8 _ 10 rfl S8' rfl (by omega) ?_; intro v9 w9 S9 g9)
                go_roundw
                case rel => exact ⟨j + 1, by omega, by go_num, by rw [body_next HL8.out HE.out]; exact S9, (M8.alloc _).kept g9 (M8.ne_row S8'.own)⟩
                case measure => simp [intOf]; omega
              · go_wp2_with (at_builtin; refine wpList_app1 rfl _ _ rfl v8 _ 10 rfl S8' rfl (by omega) ?_; intro v9 w9 S9 g9)
                go_roundw
                case rel => exact ⟨j + 1, by omega, by go_num, by rw [body_next HL8.out HE.out]; exact S9, (M8.alloc _).kept g9 (M8.ne_row S8'.own)⟩
                case measure => simp [intOf]; omega
              · go_wp2_with (at_builtin; refine wpList_app1 rfl _ _ rfl v8 _ 32 rfl S8' rfl (by omega) ?_; intro v9 w9 S9 g9)
                go_roundw
                case rel => exact ⟨j + 1, by omega, by go_num, by rw [body_next HL8.out HE.out]; exact S9, (M8.alloc _).kept g9 (M8.ne_row S8'.own)⟩
                case measure => simp [intOf]; omega
            · go_wp2_with (at_builtin; refine wpList_appS rfl _ _ rfl u1 _ rfl (S.alloc _).drew [50, 53, 53, 32, 48, 32, 48] rfl (by simp at hlen ⊢; omega) ?_; intro v8 w8 S8 g8; refine Hid.out ?_)
              refine Lib.hid ?_
              have S8' : St wb (w.heap.size + 1) w8 v8 (l6 ++ body W ps wat j ++ pxCol W ps wat j) := by
                rw [pxCol_hill HWT.out HHL.out]; exact S8
              have hb8 := S.laid g8
              have M8 := ((M.alloc _).drew).kept g8 (M.ne_row S.own)
              have hq0 : w8.cell? ⟨wr.heap.size, 0, none⟩ = some (.int .i64 ((j : Int) % W)) := by simp [World.cell?, hb8]
              obtain ⟨c0, c1, c2, c3⟩ := box w8 S8.bel
              have hpc := pxCol_le W ps wat j
              have hlen8 : (l6 ++ body W ps wat j ++ pxCol W ps wat j).length ≤ 2000011 := by simp at hlen ⊢; omega
              clear S8 g8 hb8 hlen hbl hpc M S hat hkey
              generalize hl8 : l6 ++ body W ps wat j ++ pxCol W ps wat j = l8 at S8' hlen8
              have HL8 := Lib.hid hl8
              clear hl8
              rcases pxEnd_cases W ((j : Int) % W) with ⟨e1, hE⟩ | ⟨e1, e2, hE⟩ | ⟨e1, e2, hE⟩
              all_goals
                have HE := Lib.hid hE
                clear hE
              · go_wp2_with (at_builtin; refine wpList_app1 rfl _ _ rfl v8 _ 10 rfl S8' rfl (by omega) ?_; intro v9 w9 S9 g9)
                go_roundw
                case rel => exact ⟨j + 1, by omega, by go_num, by rw [body_next HL8.out HE.out]; exact S9, (M8.alloc _).kept g9 (M8.ne_row S8'.own)⟩
                case measure => simp [intOf]; omega
              · go_wp2_with (at_builtin; refine wpList_app1 rfl _ _ rfl v8 _ 10 rfl S8' rfl (by omega) ?_; intro v9 w9 S9 g9)
                go_roundw
                case rel => exact ⟨j + 1, by omega, by go_num, by rw [body_next HL8.out HE.out]; exact S9, (M8.alloc _).kept g9 (M8.ne_row S8'.own)⟩
                case measure => simp [intOf]; omega
              · go_wp2_with (at_builtin; refine wpList_app1 rfl _ _ rfl v8 _ 32 rfl S8' rfl (by omega) ?_; intro v9 w9 S9 g9)
                go_roundw
                case rel => exact ⟨j + 1, by omega, by go_num, by rw [body_next HL8.out HE.out]; exact S9, (M8.alloc _).kept g9 (M8.ne_row S8'.own)⟩
                case measure => simp [intOf]; omega
          · go_wp2_with (at_builtin; refine wpList_appS rfl _ _ rfl u1 _ rfl (S.alloc _).drew [48, 32, 48, 32, 50, 53, 53] rfl (by simp at hlen ⊢; omega) ?_; intro v8 w8 S8 g8; refine Hid.out ?_)
            refine Lib.hid ?_
            have S8' : St wb (w.heap.size + 1) w8 v8 (l6 ++ body W ps wat j ++ pxCol W ps wat j) := by
              rw [pxCol_water HWT.out]; exact S8
            have hb8 := S.laid g8
            have M8 := ((M.alloc _).drew).kept g8 (M.ne_row S.own)
            have hq0 : w8.cell? ⟨wr.heap.size, 0, none⟩ = some (.int .i64 ((j : Int) % W)) := by simp [World.cell?, hb8]
            obtain ⟨c0, c1, c2, c3⟩ := box w8 S8.bel
            have hpc := pxCol_le W ps wat j
            have hlen8 : (l6 ++ body W ps wat j ++ pxCol W ps wat j).length ≤ 2000011 := by simp at hlen ⊢; omega
            clear S8 g8 hb8 hlen hbl hpc M S hat hkey
            generalize hl8 : l6 ++ body W ps wat j ++ pxCol W ps wat j = l8 at S8' hlen8
            have HL8 := Lib.hid hl8
            clear hl8
            rcases pxEnd_cases W ((j : Int) % W) with ⟨e1, hE⟩ | ⟨e1, e2, hE⟩ | ⟨e1, e2, hE⟩
            all_goals
              have HE := Lib.hid hE
              clear hE
            · go_wp2_with (at_builtin; refine wpList_app1 rfl _ _ rfl v8 _ 10 rfl S8' rfl (by omega) ?_; intro v9 w9 S9 g9)
              go_roundw
              case rel => exact ⟨j + 1, by omega, by go_num, by rw [body_next HL8.out HE.out]; exact S9, (M8.alloc _).kept g9 (M8.ne_row S8'.own)⟩
              case measure => simp [intOf]; omega
            · go_wp2_with (at_builtin; refine wpList_app1 rfl _ _ rfl v8 _ 10 rfl S8' rfl (by omega) ?_; intro v9 w9 S9 g9)
              go_roundw
              case rel => exact ⟨j + 1, by omega, by go_num, by rw [body_next HL8.out HE.out]; exact S9, (M8.alloc _).kept g9 (M8.ne_row S8'.own)⟩
              case measure => simp [intOf]; omega
            · go_wp2_with (at_builtin; refine wpList_app1 rfl _ _ rfl v8 _ 32 rfl S8' rfl (by omega) ?_; intro v9 w9 S9 g9)
              go_roundw
              case rel => exact ⟨j + 1, by omega, by go_num, by rw [body_next HL8.out HE.out]; exact S9, (M8.alloc _).kept g9 (M8.ne_row S8'.own)⟩
              case measure => simp [intOf]; omega
        · have hjn : j = nw := by omega
          subst hjn
          go_wp2
          go_ret
          have e6 := HL6.out
          have e7 := HPS.out
          subst e6 e7
          exact ⟨_, rfl, ownsRow_lower S.own (Nat.le_succ _), hbw.trans (S.bel.mono (Nat.le_succ _))⟩

end Go.Proofs.Qxb6630465aDoor
