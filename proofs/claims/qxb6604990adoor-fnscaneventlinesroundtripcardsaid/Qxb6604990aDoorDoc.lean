import Derived.Test.Qxb6604990aDoorFns
namespace Go.Proofs.Qxb6604990aDoor
open Go.RowKit

/-- A line's end, by its kind. -/
def ends (q : Nat) : List UInt8 := if q = 0 then [10] else if q = 1 then [13, 10] else [13]
def flat : List (List UInt8 × Nat) → List UInt8
  | [] => []
  | p :: r => p.1 ++ ends p.2 ++ flat r
theorem flat_append : ∀ a b, flat (a ++ b) = flat a ++ flat b
  | [], b => rfl
  | p :: a, b => by simp [flat, flat_append a b]
/-- The lines with their ends' kinds. -/
def items (xs : List ByteArray) (us : List UInt8) : List (List UInt8 × Nat) := xs.mapIdx fun i x => (x.data.toList, kd us i)
theorem items_length (xs : List ByteArray) (us : List UInt8) : (items xs us).length = xs.length := by simp [items]
theorem items_at (xs : List ByteArray) (us : List UInt8) (k : Nat) (h : k < xs.length) : (items xs us)[k]? = some (xs[k].data.toList, kd us k) := by
  simp [items, h]
theorem items_take (xs : List ByteArray) (us : List UInt8) (k : Nat) (h : k < xs.length) : flat ((items xs us).take (k + 1)) = flat ((items xs us).take k) ++ xs[k].data.toList ++ ends (kd us k) := by
  rw [List.take_add_one, items_at xs us k h, flat_append]
  simp [flat]
theorem items_drop (xs : List ByteArray) (us : List UInt8) (k : Nat) (h : k < xs.length) : (items xs us).drop k = (xs[k].data.toList, kd us k) :: (items xs us).drop (k + 1) := by
  have hk : k < (items xs us).length := by rw [items_length]; exact h
  rw [List.drop_eq_getElem_cons hk]
  have := items_at xs us k h
  rw [List.getElem?_eq_getElem hk] at this
  rw [Option.some.inj this]

/-- What the law has asked of its lines before it goes on. -/
structure Good (xs : List ByteArray) (us : List UInt8) (t : ByteArray) : Prop where
  lines : ∀ k (h : k < xs.length), xs[k].data.toList.any isEnd = false
  tail : t.data.toList.any isEnd = false
  apart : ∀ k (h : k + 1 < xs.length), ¬ (kd us k = 2 ∧ xs[k + 1].size = 0 ∧ kd us (k + 1) = 0)

theorem indexAny_app : ∀ {x : List UInt8} {r : List UInt8}, x.any isEnd = false → (∃ c r', r = c :: r' ∧ isEnd c = true) → Lib.indexAny (x ++ r) [13, 10] = (x.length : Int)
  | [], r, _, ⟨c, r', hr, hc⟩ => by
    rw [hr, List.nil_append, Lib.indexAny, contains_end, hc]; rfl
  | b :: x, r, h, hr => by
    simp only [List.any_cons, Bool.or_eq_false_iff] at h
    have ih := indexAny_app h.2 hr
    rw [List.cons_append, Lib.indexAny, contains_end, h.1, ih]
    have : ((x.length : Int) == -1) = false := by simp
    simp [this]
theorem indexAny_no : ∀ {x : List UInt8}, x.any isEnd = false → Lib.indexAny x [13, 10] = -1
  | [], _ => rfl
  | b :: x, h => by
    simp only [List.any_cons, Bool.or_eq_false_iff] at h
    rw [Lib.indexAny, contains_end, h.1, indexAny_no h.2]
    rfl

theorem ends_head (q : Nat) : ∃ c r, ends q = c :: r ∧ isEnd c = true ∧ (c = 10 ↔ q = 0) := by
  unfold ends
  split
  · exact ⟨10, [], rfl, rfl, by simp_all⟩
  · split
    · exact ⟨13, [10], rfl, rfl, by simp_all⟩
    · exact ⟨13, [], rfl, rfl, by simp_all⟩

theorem head_no {x : List UInt8} (h : x.any isEnd = false) : x[0]? ≠ some 10 := by
  cases x with
  | nil => simp
  | cons a x =>
    simp only [List.any_cons, Bool.or_eq_false_iff] at h
    intro e
    simp at e
    subst e
    exact absurd h.1 (by decide)

/-- Behind a line that ends in CR no LF follows. -/
theorem next_no {xs : List ByteArray} {us : List UInt8} {t : ByteArray} (G : Good xs us t) (j : Nat) (h : j < xs.length) (hq : kd us j = 2) : (flat ((items xs us).drop (j + 1)) ++ t.data.toList)[0]? ≠ some 10 := by
  by_cases h2 : j + 1 < xs.length
  · rw [items_drop xs us (j + 1) h2]
    simp only [flat]
    obtain ⟨c, r, he, _, hc⟩ := ends_head (kd us (j + 1))
    have hx := G.lines (j + 1) h2
    cases hl : xs[j + 1].data.toList with
    | nil =>
      rw [he]
      simp only [List.nil_append, List.cons_append, List.getElem?_cons_zero]
      intro e
      have hs : xs[j + 1].size = 0 := by
        have := congrArg List.length hl
        rw [Array.length_toList] at this
        exact this
      exact G.apart j h2 ⟨hq, hs, hc.1 (by simpa using e)⟩
    | cons a l =>
      rw [hl] at hx
      have := head_no hx
      simpa using this
  · rw [List.drop_eq_nil_of_le (by rw [items_length]; omega)]
    simpa [flat] using head_no G.tail

theorem scan_step {xs : List ByteArray} {us : List UInt8} {t : ByteArray} (G : Good xs us t) (j : Nat) (h : j < xs.length) :
    Lib.indexAny (flat ((items xs us).drop j) ++ t.data.toList) [13, 10] = (xs[j].size : Int) ∧ adv (flat ((items xs us).drop j) ++ t.data.toList) xs[j].size = xs[j].size + (ends (kd us j)).length ∧
    flat ((items xs us).drop j) ++ t.data.toList = xs[j].data.toList ++ (ends (kd us j) ++ (flat ((items xs us).drop (j + 1)) ++ t.data.toList)) := by
  have hN := next_no G j h
  have hs : xs[j].data.toList.length = xs[j].size := by simp
  rw [items_drop xs us j h]
  simp only [flat, List.append_assoc]
  refine ⟨?_, ?_, by trivial⟩
  · obtain ⟨c, r, he, hc, _⟩ := ends_head (kd us j)
    rw [indexAny_app (G.lines j h) ⟨c, _, by rw [he]; rfl, hc⟩, hs]
  · generalize flat ((items xs us).drop (j + 1)) ++ t.data.toList = R at *
    have e0 : ∀ d, (xs[j].data.toList ++ (ends (kd us j) ++ R))[xs[j].size + d]? = (ends (kd us j) ++ R)[d]? := fun d => by
      rw [List.getElem?_append_right (by omega), hs]
      simp
    have e00 := e0 0
    simp only [Nat.add_zero] at e00
    unfold adv
    rw [e00, e0 1]
    have hk : kd us j = 0 ∨ kd us j = 1 ∨ kd us j = 2 := by
      unfold kd
      split
      · exact .inl rfl
      · split
        · exact .inl rfl
        · split
          · exact .inr (.inl rfl)
          · exact .inr (.inr rfl)
    rcases hk with hk | hk | hk
    · rw [hk]; simp [ends]
    · rw [hk]; simp [ends]
    · have := hN hk
      rw [hk]
      simp [ends, this]

theorem ends_pos (q : Nat) : 1 ≤ (ends q).length := by
  obtain ⟨c, r, h, _⟩ := ends_head q
  rw [h]; simp
theorem ends_le (q : Nat) : (ends q).length ≤ 2 := by
  unfold ends
  split
  · simp
  · split <;> simp

theorem kd_cases (us : List UInt8) (j : Nat) : kd us j = 0 ∨ kd us j = 1 ∨ kd us j = 2 := by
  unfold kd
  split
  · exact .inl rfl
  · split
    · exact .inl rfl
    · split
      · exact .inr (.inl rfl)
      · exact .inr (.inr rfl)

def tot (xs : List ByteArray) : Nat := (xs.map (·.size)).sum
theorem tot_append (a b : List ByteArray) : tot (a ++ b) = tot a + tot b := by simp [tot]
theorem tot_take (xs : List ByteArray) (k : Nat) (h : k < xs.length) : tot (xs.take (k + 1)) = tot (xs.take k) + xs[k].size := by
  rw [List.take_add_one, List.getElem?_eq_getElem h, tot_append]
  simp [tot]
theorem size_le_tot (xs : List ByteArray) (k : Nat) (h : k < xs.length) : xs[k].size ≤ tot xs := by
  have := tot_take xs k h
  have h2 : tot xs = tot (xs.take (k + 1)) + tot (xs.drop (k + 1)) := by rw [← tot_append, List.take_append_drop]
  omega
theorem flat_len (xs : List ByteArray) (us : List UInt8) : ∀ k, k ≤ xs.length → (flat ((items xs us).take k)).length ≤ tot (xs.take k) + 2 * k
  | 0, _ => by simp [flat]
  | k + 1, h => by
    have ih := flat_len xs us k (by omega)
    rw [items_take xs us k (by omega), tot_take xs k (by omega)]
    have := ends_le (kd us k)
    simp only [List.length_append, Array.length_toList]
    have e : xs[k].data.size = xs[k].size := rfl
    omega
theorem tot_part (xs : List ByteArray) (k : Nat) : tot (xs.take k) ≤ tot xs := by
  have h2 : tot xs = tot (xs.take k) + tot (xs.drop k) := by rw [← tot_append, List.take_append_drop]
  omega

end Go.Proofs.Qxb6604990aDoor
