import Derived.Test.Qxb6604678aGreatFmtLaws2
import Derived.Lib.AppendStr
import Derived.Laws.AppendOwnNone
namespace Go.Proofs.Qxb6604678aGreatFmt
open Go Go.RowKit

/-- A row of bytes of the call's own; nothing old has turned. -/
structure BRow (base e : Nat) (w0 W : World) (v : Value) (l : List UInt8) : Prop where
  own : W.ownsRow base e 1 v l.length (bv l)
  below : Below base w0 W
  base_le : base ≤ W.heap.size
theorem BRow.alloc {base e : Nat} {w0 W : World} {v : Value} {l : List UInt8} (h : BRow base e w0 W v l) (o : Obj) : BRow base e w0 (W.alloc o) v l :=
  ⟨h.own.alloc o, h.below.alloc h.base_le o, by have := h.base_le; simp; omega⟩
theorem BRow.later {base e : Nat} {w0 W W' : World} {v : Value} {l : List UInt8} (h : BRow base e w0 W v l) (hb : Below W.heap.size W W') : BRow base e w0 W' v l :=
  ⟨own_below h.own hb (Nat.le_refl _), h.below.trans (hb.mono h.base_le), Nat.le_trans h.base_le hb.size⟩

/-- 'line = append(line, s...)', s a string; line a row of bytes of the call's own. -/
theorem wpList_bytes_string {P : Program} (W : World) {ops : Array Oper} {rest : List Oper} {o : Oper} {a : Act} {Q : Exit → Act → World → Prop} (hgd : o.guard = none) (sl x : Operand) (t u : TypeId)
    (ho : o.op = .call { callee := .builtin .append, args := #[sl, x], argTypes := #[t, u] })
    (base : Nat) (e : TypeId) (i : TypeInfo) (ht : P.underlying t = some (.slice e)) (hu : P.underlying u = some .string) (hi : P.info? e = some i) (hz : i.zero = some (.int .u8 0))
    (hsize : i.size = 1) (hby : i.bytes = 1)
    (v : Value) (l : List UInt8) (hs : a.eval sl = v) (w0 : World) (hR : BRow base e w0 W v l) (s : ByteArray) (hx : a.eval x = .string s)
    (hb : l.length + s.size ≤ 1073741824)
    (h : ∀ v' w', BRow base e w0 w' v' (l ++ s.data.toList) → wpList P ops Q rest (a.put o.dst v') w') : wpList P ops Q (o :: rest) a W := by
  obtain ⟨hown, hnx, hbase⟩ := hR
  refine Lib.wpList_append_own_string W hgd sl x t u ho base e i ht hu hi hz hsize hby v l.length (bv l) hs hown s hx (by unfold maxLen; omega) (by omega) hbase ?_
  intro v' w' h2 h3 _
  refine h v' w' ⟨?_, hnx.grown h3 hbase fun k hk => (hown.lt k hk).1, Nat.le_trans hbase h3.size⟩
  have e1 : (l ++ s.data.toList).length = l.length + s.size := by simp
  rw [e1, bv_append]
  exact h2

/-- 'line = append(line, ys...)', ys the first cells of some row. -/
theorem wpList_bytes_row {P : Program} (W : World) {ops : Array Oper} {rest : List Oper} {o : Oper} {a : Act} {Q : Exit → Act → World → Prop} (hgd : o.guard = none) (sl x : Operand) (t : TypeId)
    (ho : o.op = .call { callee := .builtin .append, args := #[sl, x], argTypes := #[t, t] })
    (base : Nat) (e : TypeId) (i : TypeInfo) (ht : P.underlying t = some (.slice e)) (hi : P.info? e = some i) (hz : i.zero = some (.int .u8 0))
    (hsize : i.size = 1) (hby : i.bytes = 1)
    (v : Value) (l : List UInt8) (hs : a.eval sl = v) (w0 : World) (hR : BRow base e w0 W v l) (g m c : Nat) (hx : a.eval x = .slice (some ⟨g, 0, none⟩) m c)
    (C : Array Value) (t' : TypeId) (fr : Nat × Nat) (hblk : W.heap[g]? = some (.cells C t' fr)) (ys : List UInt8) (hm : ys.length = m) (hC : C.toList.take m = bv ys)
    (hb : l.length + m ≤ 1073741824)
    (h : ∀ v' w', BRow base e w0 w' v' (l ++ ys) → wpList P ops Q rest (a.put o.dst v') w') : wpList P ops Q (o :: rest) a W := by
  obtain ⟨hown, hnx, hbase⟩ := hR
  refine wpList_append_own W hgd sl x t ho base e i (.int .u8 0) 1 1 ht hi hz hsize hby rfl (by decide) v l.length (bv l) hs hown ⟨g, 0, none⟩ m c (bv ys) hx (by rw [bv_length, hm]; omega) ?_ ?_ (by unfold maxLen; omega) (by omega) hbase ?_
  · intro j u hj
    have ha : (⟨g, 0, none⟩ : Addr).add j = ⟨g, j, none⟩ := by unfold Addr.add; split <;> simp_all
    rw [ha, cell_of_row W g j C t' fr hblk, ← Array.getElem?_toList]
    rw [← hC] at hj
    rw [List.getElem?_take] at hj
    split at hj
    · exact hj
    · cases hj
  · intro u hu
    obtain ⟨b, _, rfl⟩ := List.mem_map.1 hu
    rfl
  · intro v' w' h2 h3 _
    refine h v' w' ⟨?_, hnx.grown h3 hbase fun k hk => (hown.lt k hk).1, Nat.le_trans hbase h3.size⟩
    rw [List.length_append, hm, bv_append]
    exact h2

/-- A row of which the first k cells are set. -/
def part (A : List Value) (z : Value) (k : Nat) : List Value := A.take k ++ List.replicate (A.length - k) z
theorem part_zero (A : List Value) (z : Value) : part A z 0 = List.replicate A.length z := by simp [part]
theorem part_all (A : List Value) (z : Value) : part A z A.length = A := by simp [part]
theorem part_at (A : List Value) (z : Value) (k : Nat) (h : k < A.length) : (part A z k)[k]? = some z := by
  unfold part
  rw [List.getElem?_append_right (by simp; omega)]
  simp only [List.length_take]
  rw [show k - min k A.length = 0 from by omega, List.getElem?_replicate, if_pos (by omega)]
theorem part_set (A : List Value) (z u : Value) (k : Nat) (h : A[k]? = some u) : (part A z k).set k u = part A z (k + 1) := by
  have hk : k < A.length := (List.getElem?_eq_some_iff.1 h).1
  unfold part
  rw [List.set_append_right _ _ (by simp; omega), List.take_add_one, h]
  simp only [List.length_take]
  rw [show k - min k A.length = 0 from by omega, show A.length - k = (A.length - (k + 1)) + 1 from by omega, List.replicate_succ, List.set_cons_zero]
  simp

end Go.Proofs.Qxb6604678aGreatFmt
