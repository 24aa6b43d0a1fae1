import Derived.Lib.IndexLaws
import Derived.Lib.Strings
namespace Go.Proofs.Qxb6604117aDoor

/-- The labels between the dots. -/
def labels : List UInt8 → List (List UInt8)
  | [] => [[]]
  | c :: t => if c = 46 then [] :: labels t else
      match labels t with
      | [] => [[c]]
      | l :: ls => (c :: l) :: ls

def ldh (c : UInt8) : Bool :=
  (decide (97 ≤ c.toNat) && decide (c.toNat ≤ 122)) || (decide (65 ≤ c.toNat) && decide (c.toNat ≤ 90)) || (decide (48 ≤ c.toNat) && decide (c.toNat ≤ 57)) || decide (c.toNat = 45)

/-- What the loop's first test turns away. -/
def edge (x : List UInt8) : Bool :=
  x.isEmpty || decide (63 < x.length) || (x[0]? == some 45) || (x[x.length - 1]? == some 45)

def okLabel (x : List UInt8) : Bool := !edge x && x.all ldh

/-- The one-pass scanner. -/
def scan : Nat → UInt8 → List UInt8 → Bool
  | n, prev, [] => decide (0 < n) && prev != 45
  | n, prev, c :: t =>
    if c = 46 then (if n = 0 ∨ prev = 45 then false else scan 0 46 t)
    else if ldh c = false then false
    else if c = 45 ∧ n = 0 then false
    else if 63 < n + 1 then false
    else scan (n + 1) c t

theorem labels_ne (s : List UInt8) : labels s ≠ [] := by
  cases s with
  | nil => simp [labels]
  | cons c t =>
    unfold labels
    split
    · simp
    · split <;> simp

/-- The labels where p has been read of the first one. -/
def labelsFrom (p t : List UInt8) : List (List UInt8) :=
  match labels t with
  | [] => [p]
  | l :: ls => (p ++ l) :: ls

theorem labelsFrom_nil (t : List UInt8) : labelsFrom [] t = labels t := by
  unfold labelsFrom
  have := labels_ne t
  split
  · contradiction
  · simp_all

theorem labelsFrom_dot (p t : List UInt8) : labelsFrom p (46 :: t) = p :: labels t := by
  simp [labelsFrom, labels]

theorem labelsFrom_cons (p t : List UInt8) (c : UInt8) (hc : c ≠ 46) : labelsFrom p (c :: t) = labelsFrom (p ++ [c]) t := by
  unfold labelsFrom
  have := labels_ne t
  rw [labels, if_neg hc]
  cases h : labels t with
  | nil => contradiction
  | cons l ls => simp

theorem labelsFrom_end (p : List UInt8) : labelsFrom p [] = [p] := by simp [labelsFrom, labels]

/-- What has been read of a label, as the scanner has let it by. -/
def Part (p : List UInt8) : Prop := p.length ≤ 63 ∧ p.all ldh = true ∧ p[0]? ≠ some 45

theorem labelsFrom_bad {p t : List UInt8} (h : ∀ l, okLabel (p ++ l) = false) : (labelsFrom p t).all okLabel = false := by
  unfold labelsFrom
  have := labels_ne t
  cases hl : labels t with
  | nil => contradiction
  | cons l ls => simp [h l]

theorem scan_labels : ∀ (t p : List UInt8), Part p → scan p.length (p.getLast?.getD 46) t = (labelsFrom p t).all okLabel
  | [], p, ⟨h1, h2, h3⟩ => by
    rw [labelsFrom_end]
    simp only [scan, List.all_cons, List.all_nil, Bool.and_true, okLabel, h2, edge]
    rw [← List.getLast?_eq_getElem?]
    cases hp : p with
    | nil => simp
    | cons a b =>
      rw [hp] at h1 h3
      have h1' : ¬ (63 < (a :: b).length) := by omega
      have h3' : ((a :: b)[0]? == some (45 : UInt8)) = false := by simpa using h3
      rw [h3', decide_eq_false h1']
      cases hg : (a :: b).getLast? with
      | none => simp at hg
      | some z => simp [bne]
  | c :: t, p, hP => by
    obtain ⟨h1, h2, h3⟩ := hP
    unfold scan
    split
    · rename_i hc
      subst hc
      rw [labelsFrom_dot, List.all_cons]
      have hz : ∀ b, (if p.length = 0 ∨ p.getLast?.getD 46 = 45 then false else b) = (okLabel p && b) := by
        intro b
        unfold okLabel edge
        rw [← List.getLast?_eq_getElem?, h2]
        cases hp : p with
        | nil => simp
        | cons x y =>
          rw [hp] at h1 h3
          have h1' : ¬ (63 < (x :: y).length) := by omega
          have h3' : ((x :: y)[0]? == some (45 : UInt8)) = false := by simpa using h3
          rw [h3', decide_eq_false h1']
          cases hg : (x :: y).getLast? with
          | none => simp at hg
          | some z =>
            by_cases hz : z = 45
            · simp [hz]
            · have hz' : (some z == some (45 : UInt8)) = false := by simpa using hz
              simp [hz, hz']
      rw [hz]
      have := scan_labels t [] ⟨by simp, by simp, by simp⟩
      rw [labelsFrom_nil] at this
      simp only [List.length_nil, List.getLast?_nil, Option.getD_none] at this
      rw [this]
    · rename_i hc
      rw [labelsFrom_cons p t c hc]
      split
      · rename_i hl
        rw [labelsFrom_bad]
        intro l
        simp [okLabel, hl]
      · rename_i hl
        split
        · rename_i h0
          obtain ⟨rfl, hn⟩ := h0
          have hp : p = [] := List.eq_nil_of_length_eq_zero hn
          subst hp
          rw [labelsFrom_bad]
          intro l
          simp [okLabel, edge]
        · rename_i h0
          split
          · rename_i h63
            rw [labelsFrom_bad]
            intro l
            have : 63 < (p ++ [c] ++ l).length := by simp; omega
            simp only [okLabel, edge, decide_eq_true this, Bool.or_true, Bool.true_or, Bool.not_true, Bool.false_and]
          · rename_i h63
            have := scan_labels t (p ++ [c]) ⟨by simp; omega, by simp at hl; simp [hl] at h2 ⊢; exact h2, by
              cases p with
              | nil => simp at h0 ⊢; exact h0
              | cons x y => simpa using h3⟩
            simp only [List.length_append, List.length_cons, List.length_nil, List.getLast?_append, List.getLast?_singleton, Option.some_or, Option.getD_some, Nat.zero_add] at this
            exact this

theorem scan_all (t : List UInt8) : scan 0 46 t = (labels t).all okLabel := by
  have := scan_labels t [] ⟨by simp, by simp, by simp⟩
  rw [labelsFrom_nil] at this
  simpa using this

/-! ### the labels as strings.Index finds them -/
theorem labels_none : ∀ {s : List UInt8}, Lib.indexByte s 46 = -1 → labels s = [s]
  | [], _ => rfl
  | b :: l, h => by
    unfold Lib.indexByte at h
    split at h
    · simp at h
    · rename_i hb
      split at h
      · rename_i h2
        have hb' : b ≠ 46 := by simpa using hb
        rw [labels, if_neg hb', labels_none (by simpa using h2)]
      · rename_i h2
        have := Lib.indexByte_ge l 46
        omega

theorem labels_some : ∀ {s : List UInt8} {o : Nat}, Lib.indexByte s 46 = o → labels s = s.take o :: labels (s.drop (o + 1)) ∧ o < s.length
  | [], o, h => by simp [Lib.indexByte] at h
  | b :: l, o, h => by
    unfold Lib.indexByte at h
    split at h
    · rename_i hb
      have hb' : b = 46 := by simpa using hb
      have : o = 0 := by omega
      subst this
      subst hb'
      simp [labels]
    · rename_i hb
      have hb' : b ≠ 46 := by simpa using hb
      split at h
      · omega
      · rename_i hn
        have hn' : Lib.indexByte l 46 ≠ -1 := by simpa using hn
        have hge := Lib.indexByte_ge l 46
        obtain ⟨o', rfl⟩ : ∃ o', o = o' + 1 := ⟨o - 1, by omega⟩
        obtain ⟨h1, h2⟩ := labels_some (s := l) (o := o') (by omega)
        rw [labels, if_neg hb', h1]
        simp; omega

theorem okLabel_false_of_edge {x : List UInt8} (h : edge x = true) : okLabel x = false := by simp [okLabel, h]

end Go.Proofs.Qxb6604117aDoor
