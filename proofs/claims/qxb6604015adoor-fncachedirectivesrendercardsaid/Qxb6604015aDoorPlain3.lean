/-
  THE PLAIN LAYER, on: the pieces by their places in the list of lexemes.
-/
import Derived.Test.Qxb6604015aDoorPlain2
namespace Go.Proofs.Qxb6604015aDoor

/-- The kind of lexeme m, as a number. -/
def kd (ls : List (Nat × Bs)) (m : Nat) : Int := (((ls.map (·.1)).getD m 0 : Nat) : Int)
/-- Its text. -/
def tx (ls : List (Nat × Bs)) (m : Nat) : Bs := (ls.map (·.2)).getD m []

theorem kd_at {ls : List (Nat × Bs)} {m : Nat} (h : m < ls.length) : kd ls m = ((ls[m].1 : Nat) : Int) := by simp [kd, h]
theorem tx_at {ls : List (Nat × Bs)} {m : Nat} (h : m < ls.length) : tx ls m = ls[m].2 := by simp [tx, h]

/-- What is gathered, and what is left of the lexemes. -/
def prel (ls : List (Nat × Bs)) (acc : List (Bs × Bs)) (r : List (Nat × Bs)) : Prop := pab none ls = (pab none r).map (acc ++ ·)

/-- The lexemes from a on, up to b. -/
def seg (ls : List (Nat × Bs)) (a b : Nat) : List (Nat × Bs) := (ls.drop a).take (b - a)

theorem seg_cons {ls : List (Nat × Bs)} {a b : Nat} (h : a < b) (hb : b ≤ ls.length) : seg ls a b = ls[a] :: seg ls (a + 1) b := by
  unfold seg
  rw [List.drop_eq_getElem_cons (by omega), show b - a = (b - (a + 1)) + 1 from by omega, List.take_succ_cons]
theorem seg_snoc {ls : List (Nat × Bs)} {a b : Nat} (h : a ≤ b) (hb : b < ls.length) : seg ls a (b + 1) = seg ls a b ++ [ls[b]] := by
  unfold seg
  rw [show b + 1 - a = (b - a) + 1 from by omega, List.take_add_one, List.getElem?_drop, show a + (b - a) = b from by omega, List.getElem?_eq_getElem hb]
  rfl
theorem seg_nil (ls : List (Nat × Bs)) (a : Nat) : seg ls a a = [] := by simp [seg]
theorem seg_mem {ls : List (Nat × Bs)} {a b : Nat} {x : Nat × Bs} (h : x ∈ seg ls a b) : ∃ m, ∃ hm : m < ls.length, a ≤ m ∧ m < b ∧ ls[m] = x := by
  unfold seg at h
  obtain ⟨n, hn, rfl⟩ := List.mem_iff_getElem.1 h
  simp only [List.length_take, List.length_drop] at hn
  refine ⟨a + n, by omega, by omega, by omega, ?_⟩
  simp

theorem lo_step {ls : List (Nat × Bs)} {a b : Nat} (h : a < b) (hb : b ≤ ls.length) (hk : kd ls a = 1) : (seg ls a b).dropWhile wsL = (seg ls (a + 1) b).dropWhile wsL := by
  have ha : a < ls.length := by omega
  rw [seg_cons h hb, List.dropWhile_cons_of_pos]
  rw [kd_at ha] at hk
  simp only [wsL, beq_iff_eq]
  omega
theorem lo_stop {ls : List (Nat × Bs)} {a b : Nat} (hab : a ≤ b) (hb : b ≤ ls.length) (h : a < b → kd ls a ≠ 1) : (seg ls a b).dropWhile wsL = seg ls a b := by
  rcases Nat.lt_or_ge a b with hlt | hge
  · have ha : a < ls.length := by omega
    have hk := h hlt
    rw [kd_at ha] at hk
    rw [seg_cons hlt hb, List.dropWhile_cons_of_neg]
    simp only [wsL, beq_iff_eq]
    omega
  · have e : a = b := by omega
    subst e
    rw [seg_nil]
    rfl

theorem trimR_snoc_ws (l : List (Nat × Bs)) (a : Nat × Bs) (h : wsL a = true) : trimR (l ++ [a]) = trimR l := by
  unfold trimR
  rw [List.reverse_append]
  simp [h]
theorem trimR_snoc_not (l : List (Nat × Bs)) (a : Nat × Bs) (h : ¬ wsL a = true) : trimR (l ++ [a]) = l ++ [a] := by
  unfold trimR
  rw [List.reverse_append]
  simp [h]

theorem hi_step {ls : List (Nat × Bs)} {a b : Nat} (h : a ≤ b) (hb : b < ls.length) (hk : kd ls b = 1) : trimR (seg ls a (b + 1)) = trimR (seg ls a b) := by
  rw [seg_snoc h hb]
  refine trimR_snoc_ws _ _ ?_
  rw [kd_at hb] at hk
  simp only [wsL, beq_iff_eq]
  omega
theorem hi_stop {ls : List (Nat × Bs)} {a b : Nat} (hab : a ≤ b) (hb : b ≤ ls.length) (h : a < b → kd ls (b - 1) ≠ 1) : trimR (seg ls a b) = seg ls a b := by
  rcases Nat.lt_or_ge a b with hlt | hge
  · obtain ⟨c, rfl⟩ : ∃ c, b = c + 1 := ⟨b - 1, by omega⟩
    have hc : c < ls.length := by omega
    have hk := h hlt
    rw [show c + 1 - 1 = c from rfl, kd_at hc] at hk
    rw [seg_snoc (by omega) hc]
    refine trimR_snoc_not _ _ ?_
    simp only [wsL, beq_iff_eq]
    omega
  · have e : a = b := by omega
    subst e
    rw [seg_nil]
    rfl

theorem shape_len (l : List (Nat × Bs)) (h0 : l.length ≠ 0) (h1 : l.length ≠ 1) (h3 : l.length ≠ 3) : shape l = none := by
  match l, h0, h1, h3 with
  | [], h0, _, _ => exact absurd rfl h0
  | [_], _, h1, _ => exact absurd rfl h1
  | [_, _], _, _, _ => rfl
  | [_, _, _], _, _, h3 => exact absurd rfl h3
  | _ :: _ :: _ :: _ :: _, _, _, _ => rfl

theorem seg_length {ls : List (Nat × Bs)} {a b : Nat} (hab : a ≤ b) (hb : b ≤ ls.length) : (seg ls a b).length = b - a := by
  unfold seg
  simp only [List.length_take, List.length_drop]
  omega

/-- The shape of what is left between the blanks, by places. -/
theorem shape_seg1 {ls : List (Nat × Bs)} {a : Nat} (ha : a < ls.length) : shape (seg ls a (a + 1)) = if kd ls a = 5 then some [(low (tx ls a), [])] else none := by
  rw [seg_cons (by omega) (by omega), seg_nil, kd_at ha, tx_at ha]
  generalize ls[a] = x
  obtain ⟨k, t⟩ := x
  simp only [shape]
  by_cases h : k = 5
  · subst h; rfl
  · rw [if_neg h, if_neg (by omega)]
theorem shape_seg3 {ls : List (Nat × Bs)} {a : Nat} (ha : a + 2 < ls.length) : shape (seg ls a (a + 3)) = if kd ls a = 5 ∧ kd ls (a + 1) = 3 ∧ (kd ls (a + 2) = 5 ∨ kd ls (a + 2) = 4) then some [(low (tx ls a), tx ls (a + 2))] else none := by
  have h0 : a < ls.length := by omega
  have h1 : a + 1 < ls.length := by omega
  have e : seg ls a (a + 3) = [ls[a], ls[a + 1], ls[a + 2]] := by
    rw [seg_cons (by omega) (by omega), seg_cons (by omega) (by omega), seg_cons (by omega) (by omega)]
    have := seg_nil ls (a + 3)
    simp only [show a + 1 + 1 = a + 2 from rfl, show a + 2 + 1 = a + 3 from rfl, this]
  rw [e, kd_at h0, kd_at h1, kd_at ha, tx_at h0, tx_at ha]
  generalize ls[a] = x
  generalize ls[a + 1] = y
  generalize ls[a + 2] = z
  obtain ⟨k, t⟩ := x
  obtain ⟨k1, t1⟩ := y
  obtain ⟨k2, t2⟩ := z
  simp only [shape]
  by_cases h : k = 5 ∧ k1 = 3 ∧ (k2 = 5 ∨ k2 = 4)
  · rw [if_pos h, if_pos (by omega)]
  · rw [if_neg h, if_neg (by omega)]

theorem restOf_drop (ls : List (Nat × Bs)) (i : Nat) : restOf (ls.drop i) = pab none (ls.drop (i + 1)) := by
  cases h : ls.drop i with
  | nil =>
    have : ls.drop (i + 1) = [] := by
      rw [← List.drop_drop, h]
      rfl
    rw [this]
    rfl
  | cons a r =>
    have : ls.drop (i + 1) = r := by
      rw [← List.drop_drop, h]
      rfl
    rw [this]
    rfl

/-- A piece is matched. -/
theorem prel_piece {ls : List (Nat × Bs)} {acc : List (Bs × Bs)} {st i : Nat} (hst : st ≤ i) (hi : i ≤ ls.length) (HK : ∀ m, st ≤ m → m < i → kd ls m ≠ 2) (HE : i < ls.length → kd ls i = 2) (H : prel ls acc (ls.drop st)) :
    pab none ls = (shape (trimR ((seg ls st i).dropWhile wsL))).bind fun d => (pab none (ls.drop (i + 1))).map fun l => (acc ++ d) ++ l := by
  have hsplit : ls.drop st = seg ls st i ++ ls.drop i := by
    unfold seg
    have := List.take_append_drop (i - st) (ls.drop st)
    rw [List.drop_drop, show st + (i - st) = i from by omega] at this
    exact this.symm
  have hp : ∀ a ∈ seg ls st i, a.1 ≠ 2 := by
    intro a ha
    obtain ⟨m, hm, h1, h2, rfl⟩ := seg_mem ha
    have := HK m h1 h2
    rw [kd_at hm] at this
    omega
  have hr : ∀ a ∈ (ls.drop i).head?, a.1 = 2 := by
    intro a ha
    by_cases h : i < ls.length
    · rw [List.drop_eq_getElem_cons h] at ha
      have ha' : ls[i] = a := by simpa [h] using ha
      subst ha'
      have := HE h
      rw [kd_at h] at this
      omega
    · rw [List.drop_eq_nil_of_le (by omega)] at ha
      cases ha
  unfold prel at H
  rw [H, hsplit, pab_piece _ _ hp hr, bindD, restOf_drop]
  cases shape (trimR ((seg ls st i).dropWhile wsL)) with
  | none => rfl
  | some d =>
    simp only [Option.bind_some, Option.map_map]
    cases pab none (ls.drop (i + 1)) with
    | none => rfl
    | some l => simp

theorem lexF_small (f : Nat) : ∀ (t : Bs) (ls : List (Nat × Bs)), lexF f t = some ls → ∀ a ∈ ls, a.2.length ≤ t.length := by
  induction f with
  | zero => intro t ls h; simp [lexF] at h
  | succ f ih =>
    intro t ls h a ha
    cases t with
    | nil => simp [lexF] at h; subst h; simp at ha
    | cons c t =>
      have key : ∀ (k : Nat) (y r : Bs), y.length ≤ (c :: t).length → r.length ≤ (c :: t).length → (lexF f r).map ((k, y) :: ·) = some ls → a.2.length ≤ (c :: t).length := by
        intro k y r hy hr ho
        obtain ⟨l', hl', rfl⟩ := Option.map_eq_some_iff.1 ho
        rcases List.mem_cons.1 ha with rfl | ha
        · exact hy
        · exact Nat.le_trans (ih r l' hl' a ha) hr
      simp only [lexF] at h
      split at h
      · exact key _ _ _ (by simp) (by simp) h
      · split at h
        · exact key _ _ _ (by simp) (by simp) h
        · split at h
          · exact key _ _ _ (by simp) (by simp) h
          · split at h
            · obtain ⟨p, hp, hq⟩ := Option.bind_eq_some_iff.1 h
              have := qs_len t false p.1 p.2 hp
              exact key _ _ _ (by simp only [List.length_cons]; omega) (by simp only [List.length_cons]; omega) hq
            · split at h
              · have h1 := drop_len tokB t
                have h2 : (t.takeWhile tokB).length ≤ t.length := by
                  have := congrArg List.length (List.takeWhile_append_dropWhile (p := tokB) (l := t))
                  simp only [List.length_append] at this
                  omega
                exact key _ _ _ (by simp only [List.length_cons]; omega) (by simp only [List.length_cons]; omega) h
              · cases h
theorem lexL_small {t : Bs} {ls : List (Nat × Bs)} (h : lexL t = some ls) (m : Nat) : (tx ls m).length ≤ t.length := by
  by_cases hm : m < ls.length
  · rw [tx_at hm]
    exact lexF_small _ t ls h _ (List.getElem_mem hm)
  · unfold tx
    rw [List.getD_eq_getElem?_getD, List.getElem?_eq_none (by simpa using Nat.le_of_not_lt hm)]
    simp

/-- What a matched piece leaves. -/
theorem prel_some {ls : List (Nat × Bs)} {acc d : List (Bs × Bs)} {q : List (Nat × Bs)} {i : Nat} (H : pab none ls = (shape q).bind fun d => (pab none (ls.drop (i + 1))).map fun l => (acc ++ d) ++ l) (h : shape q = some d) : prel ls (acc ++ d) (ls.drop (i + 1)) := by
  unfold prel
  rw [H, h]
  rfl
theorem prel_none {ls : List (Nat × Bs)} {acc : List (Bs × Bs)} {q : List (Nat × Bs)} {i : Nat} (H : pab none ls = (shape q).bind fun d => (pab none (ls.drop (i + 1))).map fun l => (acc ++ d) ++ l) (h : shape q = none) : pab none ls = none := by
  rw [H, h]
  rfl

end Go.Proofs.Qxb6604015aDoor
