/-
  THE PLAIN LAYER of the seat's two laws: bytes, lexemes and the list of directives, with no Go in sight.
-/
namespace Go.Proofs.Qxb6604015aDoor

abbrev Bs := List UInt8

/-- The tchar of RFC 9110, over the byte's number. -/
def tokN (n : Int) : Bool :=
  decide ((97 ≤ n ∧ n ≤ 122) ∨ (65 ≤ n ∧ n ≤ 90) ∨ (48 ≤ n ∧ n ≤ 57) ∨ n = 33 ∨ n = 35 ∨ n = 36 ∨ n = 37 ∨ n = 38 ∨ n = 39 ∨ n = 42 ∨ n = 43 ∨ n = 45 ∨ n = 46 ∨ n = 94 ∨ n = 95 ∨ n = 96 ∨ n = 124 ∨ n = 126)

def tokB (c : UInt8) : Bool := tokN (c.toNat : Int)
def wsB (c : UInt8) : Bool := c == 32 || c == 9
def lowB (c : UInt8) : UInt8 := if 65 ≤ c ∧ c ≤ 90 then c + 32 else c
def low (l : Bs) : Bs := l.map lowB

/-- The scan of a quoted string behind its opening quote; the tag: the next byte is escaped. -/
def qs : Bool → Bs → Option (Bs × Bs)
  | _, [] => none
  | true, c :: t => (qs false t).map fun p => (c :: p.1, p.2)
  | false, c :: t => if c = 34 then some ([], t) else if c = 92 then qs true t else (qs false t).map fun p => (c :: p.1, p.2)

/-- Unescaping; the tag: the byte before was a backslash that escapes. -/
def us : Bool → Bs → Bs
  | _, [] => []
  | true, c :: t => c :: us false t
  | false, c :: t => if c = 92 then us true t else c :: us false t

/-- The state behind some bytes. -/
def stQ : Bool → Bs → Bool
  | p, [] => p
  | p, c :: t => stQ (c == 92 && !p) t

/-- How many backslashes stand at the end. -/
def trail (l : Bs) : Nat := (l.reverse.takeWhile (· == 92)).length

theorem trail_snoc (l : Bs) (c : UInt8) : trail (l ++ [c]) = if c = 92 then trail l + 1 else 0 := by
  unfold trail
  by_cases h : c = 92 <;> simp [h]

theorem stQ_snoc (p : Bool) (l : Bs) (c : UInt8) : stQ p (l ++ [c]) = (c == 92 && !(stQ p l)) := by
  induction l generalizing p with
  | nil => simp [stQ]
  | cons a t ih => simp [stQ, ih]

theorem stQ_trail_rev (l : Bs) : stQ false l.reverse = decide (trail l.reverse % 2 = 1) := by
  induction l with
  | nil => simp [stQ, trail]
  | cons c t ih =>
    rw [List.reverse_cons, stQ_snoc, trail_snoc, ih]
    by_cases h : c = 92
    · simp only [h, beq_self_eq_true, Bool.true_and, if_pos]
      rw [Bool.eq_iff_iff]
      simp only [Bool.not_eq_true', decide_eq_false_iff_not, decide_eq_true_eq]
      omega
    · simp [h]

theorem stQ_trail (l : Bs) : stQ false l = decide (trail l % 2 = 1) := by
  have := stQ_trail_rev l.reverse
  rwa [List.reverse_reverse] at this

/-- The byte at i closes the string. -/
def closes (p : Bool) (t : Bs) (i : Nat) : Prop := t[i]? = some 34 ∧ stQ p (t.take i) = false

theorem qs_close (t : Bs) (p : Bool) (e : Nat) (h : closes p t e) (hn : ∀ i, i < e → ¬ closes p t i) : qs p t = some (us p (t.take e), t.drop (e + 1)) := by
  induction t generalizing p e with
  | nil => simp [closes] at h
  | cons c t ih =>
    cases e with
    | zero =>
      have h1 : c = 34 := by simpa using h.1
      have h2 : p = false := by simpa [stQ] using h.2
      subst h1 h2
      simp [qs, us]
    | succ e =>
      have hc : closes (c == 92 && !p) t e := ⟨by simpa using h.1, by simpa [stQ] using h.2⟩
      have hnn : ∀ i, i < e → ¬ closes (c == 92 && !p) t i := fun i hi hcl => hn (i + 1) (by omega) ⟨by simpa using hcl.1, by simpa [stQ] using hcl.2⟩
      have := ih _ e hc hnn
      have h0 : ¬ (c = 34 ∧ p = false) := fun hh => hn 0 (by omega) ⟨by simp [hh.1], by simp [stQ, hh.2]⟩
      cases p with
      | true => simp only [Bool.not_true, Bool.and_false] at this; simp [qs, us, this]
      | false =>
        have hq : c ≠ 34 := fun hh => h0 ⟨hh, rfl⟩
        by_cases hb : c = 92
        · subst hb; simp at this; simp [qs, us, this]
        · have hb' : (c == 92) = false := by simpa using hb
          rw [hb'] at this
          simp only [Bool.false_and] at this
          simp [qs, us, this, hq, hb]

theorem qs_open (t : Bs) (p : Bool) (hn : ∀ i, ¬ closes p t i) : qs p t = none := by
  induction t generalizing p with
  | nil => cases p <;> simp [qs]
  | cons c t ih =>
    have hnn : ∀ i, ¬ closes (c == 92 && !p) t i := fun i hcl => hn (i + 1) ⟨by simpa using hcl.1, by simpa [stQ] using hcl.2⟩
    have := ih _ hnn
    have h0 : ¬ (c = 34 ∧ p = false) := fun hh => hn 0 ⟨by simp [hh.1], by simp [stQ, hh.2]⟩
    cases p with
    | true => simp only [Bool.not_true, Bool.and_false] at this; simp [qs, this]
    | false =>
      have hq : c ≠ 34 := fun hh => h0 ⟨hh, rfl⟩
      by_cases hb : c = 92
      · subst hb; simp at this; simp [qs, this]
      · have hb' : (c == 92) = false := by simpa using hb
        rw [hb'] at this
        simp only [Bool.false_and] at this
        simp [qs, this, hq, hb]

theorem qs_len (t : Bs) (p : Bool) (x r : Bs) (h : qs p t = some (x, r)) : r.length < t.length ∧ x.length ≤ t.length := by
  induction t generalizing p x r with
  | nil => cases p <;> simp [qs] at h
  | cons c t ih =>
    have key : ∀ q y, (qs q t).map (fun p => (c :: p.1, p.2)) = some (y, r) → r.length < (c :: t).length ∧ y.length ≤ (c :: t).length := by
      intro q y hy
      rw [Option.map_eq_some_iff] at hy
      obtain ⟨⟨a, b⟩, h1, h2⟩ := hy
      simp only [Prod.mk.injEq] at h2
      obtain ⟨rfl, rfl⟩ := h2
      have := ih q a b h1
      simp only [List.length_cons]; omega
    cases p with
    | true => simp only [qs] at h; exact key _ _ h
    | false =>
      simp only [qs] at h
      by_cases h1 : c = 34
      · rw [if_pos h1] at h; simp at h; obtain ⟨rfl, rfl⟩ := h; simp
      · rw [if_neg h1] at h
        by_cases h2 : c = 92
        · rw [if_pos h2] at h
          have := ih true x r h
          simp only [List.length_cons]; omega
        · rw [if_neg h2] at h; exact key _ _ h

/-- A run of k backslashes is cut to k/2. -/
theorem us_run (k : Nat) (t : Bs) (ht : t.head? ≠ some 92) : us false (List.replicate k 92 ++ t) = List.replicate (k / 2) 92 ++ us false t := by
  induction k using Nat.strongRecOn with
  | _ k ih =>
    match k, ih with
    | 0, _ => simp
    | 1, _ =>
      cases t with
      | nil => simp [us]
      | cons c t =>
        have : c ≠ 92 := by simpa using ht
        simp [us, this]
    | k + 2, ih =>
      have := ih k (by omega)
      rw [List.replicate_succ, List.replicate_succ]
      simp only [List.cons_append, us, if_pos]
      rw [this]
      have e : (k + 2) / 2 = k / 2 + 1 := by omega
      rw [e, List.replicate_succ]
      rfl

/-! The lexer. -/

def lexF : Nat → Bs → Option (List (Nat × Bs))
  | 0, _ => none
  | _ + 1, [] => some []
  | f + 1, c :: t =>
    if wsB c then (lexF f t).map ((1, []) :: ·)
    else if c = 44 then (lexF f t).map ((2, []) :: ·)
    else if c = 61 then (lexF f t).map ((3, []) :: ·)
    else if c = 34 then (qs false t).bind fun p => (lexF f p.2).map ((4, p.1) :: ·)
    else if tokB c then (lexF f (t.dropWhile tokB)).map ((5, c :: t.takeWhile tokB) :: ·)
    else none

theorem drop_len (p : UInt8 → Bool) (t : Bs) : (t.dropWhile p).length ≤ t.length := by
  have := List.takeWhile_append_dropWhile (p := p) (l := t)
  have h2 := congrArg List.length this
  simp only [List.length_append] at h2
  omega

theorem lexF_fuel (f : Nat) : ∀ (g : Nat) (s : Bs), s.length < f → s.length < g → lexF f s = lexF g s := by
  induction f with
  | zero => intro g s h; omega
  | succ f ih =>
    intro g s hf hg
    match g, hg with
    | g + 1, hg =>
      cases s with
      | nil => simp [lexF]
      | cons c t =>
        simp only [List.length_cons] at hf hg
        have ht := ih g t (by omega) (by omega)
        have hd := ih g (t.dropWhile tokB) (by have := drop_len tokB t; omega) (by have := drop_len tokB t; omega)
        simp only [lexF, ht, hd]
        by_cases h : c = 34
        · subst h
          cases hq : qs false t with
          | none => simp
          | some p =>
            have hl := qs_len t false p.1 p.2 hq
            simp only [Option.bind_some, ih g p.2 (by omega) (by omega)]
        · simp only [if_neg h]

def lexL (s : Bs) : Option (List (Nat × Bs)) := lexF (s.length + 1) s

theorem lexL_nil : lexL [] = some [] := rfl
theorem lexL_cons (c : UInt8) (t : Bs) : lexL (c :: t) =
    if wsB c then (lexL t).map ((1, []) :: ·)
    else if c = 44 then (lexL t).map ((2, []) :: ·)
    else if c = 61 then (lexL t).map ((3, []) :: ·)
    else if c = 34 then (qs false t).bind fun p => (lexL p.2).map ((4, p.1) :: ·)
    else if tokB c then (lexL (t.dropWhile tokB)).map ((5, c :: t.takeWhile tokB) :: ·)
    else none := by
  have hd := lexF_fuel (t.length + 1) ((t.dropWhile tokB).length + 1) (t.dropWhile tokB) (by have := drop_len tokB t; omega) (by omega)
  unfold lexL
  simp only [List.length_cons, lexF, hd]
  by_cases h : c = 34
  · subst h
    cases hq : qs false t with
    | none => simp
    | some p =>
      have hl := qs_len t false p.1 p.2 hq
      simp only [Option.bind_some, lexF_fuel (t.length + 1) (p.2.length + 1) p.2 (by omega) (by omega)]
  · simp only [if_neg h]

/-! The directives out of the lexemes; the tag: a directive that waits for its comma. -/

def pab : Option (Bs × Bs) → List (Nat × Bs) → Option (List (Bs × Bs))
  | none, [] => some []
  | some d, [] => some [d]
  | some d, (k, _) :: r => if k = 1 then pab (some d) r else if k = 2 then (pab none r).map (d :: ·) else none
  | none, (k, x) :: r =>
    if k = 1 then pab none r
    else if k = 2 then pab none r
    else if k = 5 then
      match r with
      | [] => some [(low x, [])]
      | (k1, y1) :: r1 =>
        if k1 = 3 then
          match r1 with
          | [] => none
          | (k2, y2) :: r2 => if k2 = 5 ∨ k2 = 4 then pab (some (low x, y2)) r2 else none
        else pab (some (low x, [])) ((k1, y1) :: r1)
    else none

end Go.Proofs.Qxb6604015aDoor
