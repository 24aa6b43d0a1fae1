/-
  THE PLAIN LAYER, on: what the scanner over the bytes computes (SA, SB), and what the split at commas computes (piece).
-/
import Derived.Test.Qxb6604015aDoorPlain
namespace Go.Proofs.Qxb6604015aDoor

/-- What is read of s where an element may begin; and where a directive waits for its comma. -/
def SA (s : Bs) : Option (List (Bs × Bs)) := (lexL s).bind (pab none)
def SB (d : Bs × Bs) (s : Bs) : Option (List (Bs × Bs)) := (lexL s).bind (pab (some d))

theorem bind_map_cons {α β : Type} (o : Option (List α)) (x : α) (f : List α → Option β) : (o.map (x :: ·)).bind f = o.bind fun l => f (x :: l) := by
  cases o <;> rfl

theorem pab_ws (x : Bs) (r : List (Nat × Bs)) : pab none ((1, x) :: r) = pab none r := by
  rcases r with _ | ⟨⟨k1, y1⟩, _ | ⟨⟨k2, y2⟩, r⟩⟩ <;> simp [pab]
theorem pab_comma (x : Bs) (r : List (Nat × Bs)) : pab none ((2, x) :: r) = pab none r := by
  rcases r with _ | ⟨⟨k1, y1⟩, _ | ⟨⟨k2, y2⟩, r⟩⟩ <;> simp [pab]
theorem pab_bad (k : Nat) (x : Bs) (r : List (Nat × Bs)) (h1 : k ≠ 1) (h2 : k ≠ 2) (h5 : k ≠ 5) : pab none ((k, x) :: r) = none := by
  rcases r with _ | ⟨⟨k1, y1⟩, _ | ⟨⟨k2, y2⟩, r⟩⟩ <;> simp [pab, h1, h2, h5]
theorem pab_tok (x : Bs) (k1 : Nat) (y1 : Bs) (r : List (Nat × Bs)) (h3 : k1 ≠ 3) : pab none ((5, x) :: (k1, y1) :: r) = pab (some (low x, [])) ((k1, y1) :: r) := by
  rcases r with _ | ⟨⟨k2, y2⟩, r⟩ <;> simp [pab, h3]
theorem drop_nil_iff {α : Type} (p : α → Bool) (l : List α) : l.dropWhile p = [] ↔ ∀ a ∈ l, p a = true := by
  induction l with
  | nil => simp
  | cons a l ih =>
    by_cases h : p a = true
    · rw [List.dropWhile_cons_of_pos h, ih]; simp [h]
    · rw [List.dropWhile_cons_of_neg h]; simp [h]
theorem all_cons {α : Type} {p : α → Prop} {a : α} {l : List α} (h : p a) (hl : ∀ b ∈ l, p b) : ∀ b ∈ a :: l, p b := by
  intro b hb
  rcases List.mem_cons.1 hb with rfl | hb
  · exact h
  · exact hl b hb

theorem SA_nil : SA [] = some [] := rfl
theorem SB_nil (d : Bs × Bs) : SB d [] = some [d] := rfl

theorem SA_ws (c : UInt8) (t : Bs) (h : wsB c = true) : SA (c :: t) = SA t := by
  unfold SA
  rw [lexL_cons, if_pos h, bind_map_cons]
  simp only [pab_ws]
theorem SB_ws (d : Bs × Bs) (c : UInt8) (t : Bs) (h : wsB c = true) : SB d (c :: t) = SB d t := by
  unfold SB
  rw [lexL_cons, if_pos h, bind_map_cons]
  rfl
theorem SA_trim (s : Bs) : SA (s.dropWhile wsB) = SA s := by
  induction s with
  | nil => rfl
  | cons c t ih =>
    by_cases h : wsB c = true
    · rw [List.dropWhile_cons_of_pos h, ih, SA_ws c t h]
    · rw [List.dropWhile_cons_of_neg h]
theorem SB_trim (d : Bs × Bs) (s : Bs) : SB d (s.dropWhile wsB) = SB d s := by
  induction s with
  | nil => rfl
  | cons c t ih =>
    by_cases h : wsB c = true
    · rw [List.dropWhile_cons_of_pos h, ih, SB_ws d c t h]
    · rw [List.dropWhile_cons_of_neg h]
theorem SA_comma (t : Bs) : SA (44 :: t) = SA t := by
  unfold SA
  rw [lexL_cons, if_neg (by decide), if_pos rfl, bind_map_cons]
  simp only [pab_comma]
theorem SB_comma (d : Bs × Bs) (t : Bs) : SB d (44 :: t) = (SA (44 :: t)).map (d :: ·) := by
  rw [SA_comma]
  unfold SB SA
  rw [lexL_cons, if_neg (by decide), if_pos rfl, bind_map_cons]
  cases lexL t <;> rfl

/-- What waits for its comma and meets another byte is refused. -/
theorem SB_other (d : Bs × Bs) (c : UInt8) (t : Bs) (hw : wsB c = false) (hc : c ≠ 44) : SB d (c :: t) = none := by
  unfold SB
  rw [lexL_cons, if_neg (by simp [hw]), if_neg hc]
  have hk : ∀ (k : Nat) (x : Bs) (o : Option (List (Nat × Bs))), k ≠ 1 → k ≠ 2 → (o.map ((k, x) :: ·)).bind (pab (some d)) = none := by
    intro k x o h1 h2
    rw [bind_map_cons]
    cases o with
    | none => rfl
    | some l => simp [pab, h1, h2]
  by_cases h1 : c = 61
  · rw [if_pos h1]; exact hk _ _ _ (by decide) (by decide)
  · rw [if_neg h1]
    by_cases h2 : c = 34
    · rw [if_pos h2]
      cases qs false t with
      | none => rfl
      | some p => simp only [Option.bind_some]; exact hk _ _ _ (by decide) (by decide)
    · rw [if_neg h2]
      by_cases h3 : tokB c = true
      · rw [if_pos h3]; exact hk _ _ _ (by decide) (by decide)
      · rw [if_neg h3]; rfl

/-- No token where one must begin: refused. -/
theorem SA_notok (c : UInt8) (t : Bs) (hw : wsB c = false) (hc : c ≠ 44) (ht : tokB c = false) : SA (c :: t) = none := by
  unfold SA
  rw [lexL_cons, if_neg (by simp [hw]), if_neg hc]
  have hk : ∀ (k : Nat) (x : Bs) (o : Option (List (Nat × Bs))), k ≠ 1 → k ≠ 2 → k ≠ 5 → (o.map ((k, x) :: ·)).bind (pab none) = none := by
    intro k x o h1 h2 h5
    rw [bind_map_cons]
    cases o with
    | none => rfl
    | some l => exact pab_bad k x l h1 h2 h5
  by_cases h1 : c = 61
  · rw [if_pos h1]; exact hk _ _ _ (by decide) (by decide) (by decide)
  · rw [if_neg h1]
    by_cases h2 : c = 34
    · rw [if_pos h2]
      cases qs false t with
      | none => rfl
      | some p => simp only [Option.bind_some]; exact hk _ _ _ (by decide) (by decide) (by decide)
    · rw [if_neg h2, if_neg (by simp [ht])]; rfl

theorem tok_not (c : UInt8) (h : tokB c = true) : wsB c = false ∧ c ≠ 44 ∧ c ≠ 61 ∧ c ≠ 34 := by
  refine ⟨?_, ?_, ?_, ?_⟩
  · by_cases h1 : c = 32
    · subst h1; revert h; decide
    · by_cases h2 : c = 9
      · subst h2; revert h; decide
      · simp [wsB, h1, h2]
  all_goals (intro hc; subst hc; revert h; decide)

theorem lex_tok (c : UInt8) (t : Bs) (h : tokB c = true) : lexL (c :: t) = (lexL (t.dropWhile tokB)).map ((5, c :: t.takeWhile tokB) :: ·) := by
  obtain ⟨h1, h2, h3, h4⟩ := tok_not c h
  rw [lexL_cons, if_neg (by simp [h1]), if_neg h2, if_neg h3, if_neg h4, if_pos h]

/-- A token without an argument. -/
theorem SA_tok_bare (c : UInt8) (t : Bs) (h : tokB c = true) (hr : (t.dropWhile tokB).head? ≠ some 61) :
    SA (c :: t) = SB (low (c :: t.takeWhile tokB), []) (t.dropWhile tokB) := by
  unfold SA SB
  rw [lex_tok c t h, bind_map_cons]
  generalize c :: t.takeWhile tokB = x
  cases hs : t.dropWhile tokB with
  | nil => simp [lexL_nil, pab]
  | cons a r =>
    rw [hs] at hr
    have ha : a ≠ 61 := by simpa using hr
    cases hl : lexL (a :: r) with
    | none => rfl
    | some l =>
      have hne : ∃ k y l', l = (k, y) :: l' ∧ k ≠ 3 := by
        rw [lexL_cons] at hl
        have key : ∀ (k : Nat) (y : Bs) (o : Option (List (Nat × Bs))), k ≠ 3 → o.map ((k, y) :: ·) = some l → ∃ k y l', l = (k, y) :: l' ∧ k ≠ 3 := by
          intro k y o hk ho
          obtain ⟨l', _, rfl⟩ := Option.map_eq_some_iff.1 ho
          exact ⟨k, y, l', rfl, hk⟩
        rw [if_neg ha] at hl
        split at hl
        · exact key _ _ _ (by decide) hl
        · split at hl
          · exact key _ _ _ (by decide) hl
          · split at hl
            · obtain ⟨p, _, hp⟩ := Option.bind_eq_some_iff.1 hl
              exact key _ _ _ (by decide) hp
            · split at hl
              · exact key _ _ _ (by decide) hl
              · cases hl
      obtain ⟨k, y, l', rfl, hk⟩ := hne
      simp only [Option.bind_some]
      exact pab_tok x k y l' hk

/-- A token, '=', a quoted string. -/
theorem SA_tok_quo (c : UInt8) (t r : Bs) (h : tokB c = true) (hr : t.dropWhile tokB = 61 :: 34 :: r) :
    SA (c :: t) = (qs false r).bind fun p => SB (low (c :: t.takeWhile tokB), p.1) p.2 := by
  unfold SA SB
  rw [lex_tok c t h, bind_map_cons, hr, lexL_cons, if_neg (by decide), if_neg (by decide), if_pos rfl, bind_map_cons, lexL_cons, if_neg (by decide), if_neg (by decide), if_neg (by decide), if_pos rfl]
  generalize c :: t.takeWhile tokB = x
  cases qs false r with
  | none => rfl
  | some p =>
    simp only [Option.bind_some]
    cases lexL p.2 with
    | none => rfl
    | some l => simp [pab]

/-- A token, '=', a token. -/
theorem SA_tok_tok (c d : UInt8) (t r : Bs) (h : tokB c = true) (hd : tokB d = true) (hr : t.dropWhile tokB = 61 :: d :: r) :
    SA (c :: t) = SB (low (c :: t.takeWhile tokB), d :: r.takeWhile tokB) (r.dropWhile tokB) := by
  unfold SA SB
  rw [lex_tok c t h, bind_map_cons, hr, lexL_cons, if_neg (by decide), if_neg (by decide), if_pos rfl, bind_map_cons, lex_tok d r hd, bind_map_cons]
  cases lexL (r.dropWhile tokB) with
  | none => rfl
  | some l => simp [pab]

/-- A token, '=', and neither. -/
theorem SA_tok_bad (c : UInt8) (t r : Bs) (h : tokB c = true) (hr : t.dropWhile tokB = 61 :: r) (hq : r.head? ≠ some 34) (hn : r.takeWhile tokB = []) : SA (c :: t) = none := by
  unfold SA
  rw [lex_tok c t h, bind_map_cons, hr, lexL_cons, if_neg (by decide), if_neg (by decide), if_pos rfl, bind_map_cons]
  generalize c :: t.takeWhile tokB = x
  cases r with
  | nil => simp [lexL_nil, pab]
  | cons a r =>
    have ha : a ≠ 34 := by simpa using hq
    have ht : ¬ tokB a = true := fun h => by rw [List.takeWhile_cons_of_pos h] at hn; cases hn
    have hk : ∀ (k : Nat) (y : Bs) (o : Option (List (Nat × Bs))), k ≠ 5 → k ≠ 4 → ((o.map ((k, y) :: ·)).bind fun l => pab none ((5, x) :: (3, []) :: l)) = none := by
      intro k y o h5 h4
      rw [bind_map_cons]
      cases o with
      | none => rfl
      | some l => simp [pab, h5, h4]
    rw [lexL_cons, if_neg ha, if_neg ht]
    split
    · exact hk _ _ _ (by decide) (by decide)
    · split
      · exact hk _ _ _ (by decide) (by decide)
      · split
        · exact hk _ _ _ (by decide) (by decide)
        · rfl

/-! The split at commas. -/

/-- The four shapes of a piece, its blanks trimmed. -/
def shape : List (Nat × Bs) → Option (List (Bs × Bs))
  | [] => some []
  | [(k, x)] => if k = 5 then some [(low x, [])] else none
  | [(k, x), (k1, _), (k2, y)] => if k = 5 ∧ k1 = 3 ∧ (k2 = 5 ∨ k2 = 4) then some [(low x, y)] else none
  | _ => none

def wsL (a : Nat × Bs) : Bool := a.1 == 1
/-- Blanks off the end. -/
def trimR (l : List (Nat × Bs)) : List (Nat × Bs) := (l.reverse.dropWhile wsL).reverse

theorem trimR_all (l : List (Nat × Bs)) (h : ∀ a ∈ l, wsL a = true) : trimR l = [] := by
  unfold trimR
  rw [List.reverse_eq_nil_iff, drop_nil_iff]
  intro a ha
  exact h a (by simpa using ha)

theorem trimR_cons (a : Nat × Bs) (l : List (Nat × Bs)) : trimR (a :: l) = if wsL a = true ∧ (∀ b ∈ l, wsL b = true) then [] else a :: trimR l := by
  by_cases h : wsL a = true ∧ (∀ b ∈ l, wsL b = true)
  · rw [if_pos h]
    exact trimR_all _ (all_cons h.1 h.2)
  · rw [if_neg h]
    unfold trimR
    rw [List.reverse_cons, List.dropWhile_append]
    by_cases hl : (l.reverse.dropWhile wsL).isEmpty = true
    · rw [if_pos hl]
      have hl' : l.reverse.dropWhile wsL = [] := by simpa using hl
      have hall : ∀ b ∈ l, wsL b = true := by
        rw [drop_nil_iff] at hl'
        intro b hb
        exact hl' b (by simpa using hb)
      have ha : ¬ wsL a = true := fun ha => h ⟨ha, hall⟩
      rw [hl', List.dropWhile_cons_of_neg ha]
      rfl
    · rw [if_neg hl, List.reverse_append]
      rfl

theorem shape_long (a b c d : Nat × Bs) (l : List (Nat × Bs)) : shape (a :: b :: c :: d :: l) = none := rfl
theorem shape_two (a b : Nat × Bs) : shape [a, b] = none := rfl

/-- What stands behind a piece: nothing, or a comma and more. -/
def restOf (r : List (Nat × Bs)) : Option (List (Bs × Bs)) :=
  match r with
  | [] => some []
  | _ :: r' => pab none r'

def bindD (o : Option (List (Bs × Bs))) (r : List (Nat × Bs)) : Option (List (Bs × Bs)) := o.bind fun d => (restOf r).map (d ++ ·)

/-- Behind a directive only blanks may stand. -/
theorem pab_wait (d : Bs × Bs) (p r : List (Nat × Bs)) (hp : ∀ a ∈ p, a.1 ≠ 2) (hr : ∀ a ∈ r.head?, a.1 = 2) :
    pab (some d) (p ++ r) = if (∀ a ∈ p, wsL a = true) then (restOf r).map (d :: ·) else none := by
  induction p with
  | nil =>
    rw [if_pos (by simp)]
    cases r with
    | nil => rfl
    | cons a r =>
      have : a.1 = 2 := hr a (by simp)
      obtain ⟨k, x⟩ := a
      subst this
      simp [pab, restOf]
  | cons a p ih =>
    obtain ⟨k, x⟩ := a
    have h2 : k ≠ 2 := hp (k, x) (by simp)
    have ih' := ih (fun a ha => hp a (by simp [ha]))
    by_cases h1 : k = 1
    · subst h1
      simp only [List.cons_append, pab, if_pos, ih']
      by_cases hh : ∀ a ∈ p, wsL a = true
      · rw [if_pos hh, if_pos (all_cons (p := fun a => wsL a = true) (show wsL (1, x) = true from rfl) hh)]
      · rw [if_neg hh, if_neg (fun hall => hh fun a ha => hall a (by simp [ha]))]
    · rw [if_neg (fun hall => h1 (by simpa [wsL] using hall (k, x) (by simp)))]
      simp [pab, h1, h2]

theorem trimR_nil_iff (l : List (Nat × Bs)) : trimR l = [] ↔ ∀ a ∈ l, wsL a = true := by
  constructor
  · intro h
    unfold trimR at h
    rw [List.reverse_eq_nil_iff, drop_nil_iff] at h
    intro a ha
    exact h a (by simpa using ha)
  · exact trimR_all l

/-- A piece without a comma, and what stands behind it. -/
theorem pab_piece (p r : List (Nat × Bs)) (hp : ∀ a ∈ p, a.1 ≠ 2) (hr : ∀ a ∈ r.head?, a.1 = 2) :
    pab none (p ++ r) = bindD (shape (trimR (p.dropWhile wsL))) r := by
  induction p with
  | nil =>
    cases r with
    | nil => rfl
    | cons a r =>
      have : a.1 = 2 := hr a (by simp)
      obtain ⟨k, x⟩ := a
      subst this
      simp [pab_comma, bindD, restOf, trimR, shape]
  | cons a p ih =>
    obtain ⟨k, x⟩ := a
    have h2 : k ≠ 2 := hp (k, x) (by simp)
    have hp' : ∀ a ∈ p, a.1 ≠ 2 := fun a ha => hp a (by simp [ha])
    by_cases h1 : k = 1
    · subst h1
      rw [List.dropWhile_cons_of_pos (by rfl), ← ih hp']
      exact pab_ws x (p ++ r)
    · have hw : ¬ wsL (k, x) = true := by simpa [wsL] using h1
      rw [List.dropWhile_cons_of_neg hw, trimR_cons, if_neg (fun h => hw h.1)]
      by_cases h5 : k = 5
      · subst h5
        cases p with
        | nil =>
          simp only [trimR, List.reverse_nil, List.dropWhile_nil, shape, if_pos, bindD, Option.bind_some, List.nil_append, List.cons_append]
          cases r with
          | nil => simp [pab, restOf]
          | cons b r =>
            obtain ⟨k1, y1⟩ := b
            have : k1 = 2 := hr (k1, y1) (by simp)
            subst this
            rw [pab_tok x 2 y1 r (by decide)]
            simp [pab, restOf]
        | cons b p =>
          obtain ⟨k1, y1⟩ := b
          have hk1 : k1 ≠ 2 := hp' (k1, y1) (by simp)
          have hp2 : ∀ a ∈ p, a.1 ≠ 2 := fun a ha => hp' a (by simp [ha])
          by_cases h3 : k1 = 3
          · subst h3
            have hw3 : ¬ wsL (3, y1) = true := by simp [wsL]
            rw [trimR_cons, if_neg (fun h => hw3 h.1)]
            cases p with
            | nil =>
              have : shape [(5, x), (3, y1)] = none := rfl
              simp only [trimR, List.reverse_nil, List.dropWhile_nil, this, bindD, Option.bind_none, List.nil_append, List.cons_append]
              cases r with
              | nil => simp [pab]
              | cons b r =>
                obtain ⟨k2, y2⟩ := b
                have : k2 = 2 := hr (k2, y2) (by simp)
                subst this
                simp [pab]
            | cons b p =>
              obtain ⟨k2, y2⟩ := b
              have hk2 : k2 ≠ 2 := hp2 (k2, y2) (by simp)
              have hp3 : ∀ a ∈ p, a.1 ≠ 2 := fun a ha => hp2 a (by simp [ha])
              have e : pab none ((5, x) :: (3, y1) :: (k2, y2) :: p ++ r) = if k2 = 5 ∨ k2 = 4 then pab (some (low x, y2)) (p ++ r) else none := by simp [pab]
              rw [e]
              by_cases hk : k2 = 5 ∨ k2 = 4
              · have hw2 : ¬ wsL (k2, y2) = true := by rcases hk with rfl | rfl <;> simp [wsL]
                rw [if_pos hk, trimR_cons, if_neg (fun h => hw2 h.1), pab_wait _ p r hp3 hr]
                by_cases hall : ∀ a ∈ p, wsL a = true
                · rw [if_pos hall, trimR_all p hall]
                  simp only [shape, hk, and_self, if_true, bindD, Option.bind_some]
                  rfl
                · rw [if_neg hall]
                  cases ht : trimR p with
                  | nil => exact absurd ((trimR_nil_iff p).1 ht) hall
                  | cons z l => rw [shape_long]; rfl
              · rw [if_neg hk]
                rw [trimR_cons]
                by_cases hh : wsL (k2, y2) = true ∧ ∀ b ∈ p, wsL b = true
                · rw [if_pos hh]; rfl
                · rw [if_neg hh]
                  cases ht : trimR p with
                  | nil => simp [shape, hk, bindD]
                  | cons z l => rw [shape_long]; rfl
          · have e : pab none ((5, x) :: (k1, y1) :: p ++ r) = pab (some (low x, [])) ((k1, y1) :: p ++ r) := pab_tok x k1 y1 (p ++ r) h3
            rw [e, pab_wait _ _ r hp' hr]
            by_cases hall : ∀ a ∈ (k1, y1) :: p, wsL a = true
            · rw [if_pos hall, trimR_all _ hall]
              simp only [shape, if_true, bindD, Option.bind_some]
              rfl
            · rw [if_neg hall, trimR_cons, if_neg (fun h => hall (all_cons h.1 h.2))]
              cases ht : trimR p with
              | nil => rfl
              | cons z l =>
                cases l with
                | nil => simp [shape, h3, bindD]
                | cons z2 l => rw [shape_long]; rfl
      · have e : pab none ((k, x) :: p ++ r) = none := pab_bad k x (p ++ r) h1 h2 h5
        rw [e]
        cases ht : trimR p with
        | nil => simp [shape, h5, bindD]
        | cons z l =>
          cases l with
          | nil => rfl
          | cons z2 l =>
            cases l with
            | nil => simp [shape, h5, bindD]
            | cons z3 l => rw [shape_long]; rfl

end Go.Proofs.Qxb6604015aDoor
