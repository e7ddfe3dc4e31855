/-
  'append(b, "..."...)' onto a slice of bytes whose capacity is its length: it moves to a new row; nothing old turns.
-/
import Derived.Test.Qxb6630465aDoorClone
import Derived.Lib.AppendStr
namespace Go.Proofs.Qxb6630465aDoor
open Go.RowKit Go.Lib

theorem run_append_full_string {P : Program} (w : World) (t u ty e : TypeId) (i : TypeInfo) (ht : P.underlying t = some (.slice e)) (hu : P.underlying u = some .string) (hi : P.info? e = some i) (hz : i.zero = some (.int .u8 0))
    (hsize : i.size = 1) (hby : i.bytes = 1) (v : Value) (zs : List Int) (hF : Full w v zs) (s : ByteArray) (hs : 0 < s.size) (hb : zs.length + s.size ≤ 140737488355328) :
    ∃ v' w', (Builtin.append_ #[t, u] ty #[v, .string s]).run P w = .ok v' w' ∧ w'.ownsRow w.heap.size e 1 v' (zs.length + s.size) (cz zs ++ strCells s) ∧ w.grownBy w' none := by
  have h63 : zs.length + s.size ≤ maxLen := by unfold maxLen; omega
  rcases hF with ⟨rfl, rfl⟩ | ⟨g, rfl, hg, hc⟩
  · obtain ⟨v', w', hr, h2, h3, _⟩ := run_append_own_string (P := P) w w.heap.size t u ty e i ht hu hi hz hsize hby (.slice none 0 0) 0 [] (World.ownsRow_nil _ _ _ _) s (by simpa using h63) (by simpa using hb) (Nat.le_refl _)
    exact ⟨v', w', hr, by simpa [cz] using h2, h3⟩
  · have hxl : (cz zs).length = zs.length := cz_length zs
    have holds : ∀ j v, (cz zs)[j]? = some v → w.cell? ((⟨g, 0, none⟩ : Addr).add j) = some v := fun j v hj => by
      have := hc j v hj
      rw [Addr.add_lit]; simpa using this
    have hr := run_append_grow_string (P := P) w t u ty e i (.int .u8 0) ht hu hi hz ⟨g, 0, none⟩ zs.length zs.length (cz zs) (by rw [hsize]; simpa using hxl) holds s (by omega) (by omega) (by rw [hby]; exact growslice_fits (by omega) (by omega))
    have hge := grownCap_ge w (zs.length + s.size) zs.length e
    have hcm : grownCap w (zs.length + s.size) zs.length e ≤ maxLen := grownCap_le_maxLen w (zs.length + s.size) zs.length e h63
    have hlen : (cz zs ++ strCells s).length = (zs.length + s.size) * 1 := by rw [List.length_append, hxl, strCells_length, Nat.mul_one]
    refine ⟨_, _, hr, ⟨hlen, .inr ⟨w.heap.size, _, _, rfl, Nat.le_refl _, heap_alloc_new w.drew _, hge, hcm, ?_, ?_⟩⟩, ⟨rfl, rfl, rfl, by simp, fun k hk _ => Below.heap_alloc w.drew _ k hk⟩⟩
    · have hz1 : (Value.int IntKind.u8 0).cells.size = 1 := rfl
      simp only [Array.size_append, List.size_toArray, size_zeroCells, hz1, hxl, strCells_length]
      omega
    · simp only [Array.toList_append, List.append_assoc]
      rw [← List.append_assoc, ← hlen]
      exact List.take_left

theorem wpList_append_full_string {P : Program} {w : World} {ops : Array Oper} {rest : List Oper} {o : Oper} {a : Act} {Q : Exit → Act → World → Prop} (hgd : o.guard = none) (sl x : Operand) (t u : TypeId)
    (ho : o.op = .call { callee := .builtin .append, args := #[sl, x], argTypes := #[t, u] })
    (e : TypeId) (i : TypeInfo) (ht : P.underlying t = some (.slice e)) (hu : P.underlying u = some .string) (hi : P.info? e = some i) (hz : i.zero = some (.int .u8 0))
    (hsize : i.size = 1) (hby : i.bytes = 1)
    (v : Value) (zs : List Int) (hsl : a.eval sl = v) (hF : Full w v zs) (s : ByteArray) (hx : a.eval x = .string s) (hs : 0 < s.size) (hb : zs.length + s.size ≤ 140737488355328)
    (h : ∀ v' w', w'.ownsRow w.heap.size e 1 v' (zs.length + s.size) (cz zs ++ strCells s) → w.grownBy w' none → wpList P ops Q rest (a.put o.dst v') w') : wpList P ops Q (o :: rest) a w := by
  refine wpList_plain hgd fun K hK => ?_
  obtain ⟨v', w', hr, h2, h3⟩ := run_append_full_string (P := P) w t u o.type e i ht hu hi hz hsize hby v zs hF s hs hb
  unfold Oper.wp execOp
  simp only [ho, resolve, invoke, builtin, Sem.run_bind, Sem.run_pure, Result.andThen_ok, List.map_toArray, List.map_cons, List.map_nil, hsl, hx, hr]
  exact hK _ _ (h v' w' h2 h3)

end Go.Proofs.Qxb6630465aDoor
