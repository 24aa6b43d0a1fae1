import Derived.Test.Qxb6604678aGreatFmtLaws
namespace Go.Proofs.Qxb6604678aGreatFmt
open Go Go.RowKit

/-- Rows of different element types lie apart. -/
theorem apart_types {w : World} {b1 b2 : Nat} {e1 e2 s1 s2 : Nat} {u v : Value} {n m : Nat} {xs ys : List Value} (hu : w.ownsRow b1 e1 s1 u n xs) (hv : w.ownsRow b2 e2 s2 v m ys) (hne : e1 ≠ e2) : Apart u v := by
  intro k hk hv'
  rcases hu.2 with ⟨rfl, _⟩ | ⟨g, cap, cur, rfl, _, hg, _⟩
  · cases hk
  · rcases hv.2 with ⟨rfl, _⟩ | ⟨g', cap', cur', rfl, _, hg', _⟩
    · cases hv'
    · simp only [Value.ownBlock, Option.some.injEq] at hk hv'
      subst hk
      subst hv'
      rw [hg] at hg'
      simp at hg'
      exact hne hg'.2
theorem other_kept {wr w1 : World} {o : Obj} {b1 b2 : Nat} {e1 e2 s1 s2 : Nat} {u v : Value} {n m : Nat} {xs ys : List Value} (hu : wr.ownsRow b1 e1 s1 u n xs) (hv : wr.ownsRow b2 e2 s2 v m ys) (hne : e1 ≠ e2) (hg : (wr.alloc o).grownBy w1 u.ownBlock) : w1.ownsRow b2 e2 s2 v m ys :=
  (hv.alloc o).kept hg (apart_types hv hu (Ne.symm hne)).ne

theorem heap_new_at {W : World} {o : Obj} {g : Nat} (h : g = W.heap.size) : (W.alloc o).heap[g]? = some o := by
  subst h
  show (W.heap.push o)[W.heap.size]? = some o
  simp

/-- 'out = append(out, d)', one element of two cells. -/
theorem wpList_append_pair {P : Program} (W : World) {ops : Array Oper} {rest : List Oper} {o : Oper} {a : Act} {Q : Exit → Act → World → Prop} (hgd : o.guard = none) (s x : Operand) (t : TypeId)
    (ho : o.op = .call { callee := .builtin .append, args := #[s, x], argTypes := #[t, t] })
    (base : Nat) (e : TypeId) (i : TypeInfo) (z : Value) (bytes : Nat) (ht : P.underlying t = some (.slice e)) (hi : P.info? e = some i) (hz : i.zero = some z)
    (hsize : i.size = 2) (hby : i.bytes = bytes) (hzs : z.cells.size = 2)
    (v : Value) (n : Nat) (xs : List Value) (hs : a.eval s = v) (hown : W.ownsRow base e 2 v n xs) (w0 : World) (hnx : Below base w0 W)
    (g : Nat) (y1 y2 : Value) (hx : a.eval x = .slice (some ⟨g, 0, none⟩) 1 1) (hy : W.heap[g]? = some (.cells #[y1, y2] e (0, 0))) (h1 : y1.oneCell' = true) (h2 : y2.oneCell' = true)
    (h63 : n + 1 ≤ 9223372036854775807) (hbytes : (n + 1) * bytes ≤ 140737488355328) (hbase : base ≤ W.heap.size)
    (h : ∀ v' w', w'.ownsRow base e 2 v' (n + 1) (xs ++ [y1, y2]) → W.grownBy w' v.ownBlock → v' ≠ .slice none 0 0 → (v'.ownBlock = v.ownBlock ∨ ∀ k, v'.ownBlock = some k → W.heap.size ≤ k) → Below base w0 w' → wpList P ops Q rest (a.put o.dst v') w') : wpList P ops Q (o :: rest) a W := by
  refine wpList_append_own2 W hgd s x t ho base e i z 2 bytes ht hi hz hsize hby hzs (by decide) v n xs hs hown ⟨g, 0, none⟩ 1 1 [y1, y2] hx rfl ?_ ?_ (by unfold maxLen; omega) hbytes hbase ?_
  · intro j u hj
    have ha : (⟨g, 0, none⟩ : Addr).add j = ⟨g, j, none⟩ := by unfold Addr.add; split <;> simp_all
    rw [ha, cell_of_row W g j _ e _ hy]
    match j, hj with
    | 0, hj => exact hj
    | 1, hj => exact hj
    | j + 2, hj => simp at hj
  · intro u hu
    simp at hu
    rcases hu with rfl | rfl
    · exact h1
    · exact h2
  · intro v' w' h2 h3 h4 h5
    exact h v' w' h2 h3 (fun e => by simpa using h4.1 e) h5 (hnx.grown h3 hbase fun k hk => (hown.lt k hk).1)

end Go.Proofs.Qxb6604678aGreatFmt
