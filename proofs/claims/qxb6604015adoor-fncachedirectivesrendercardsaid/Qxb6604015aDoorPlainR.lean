/-
  THE PLAIN LAYER of the second law: a header that is rendered from directives is read back as those directives.
-/
import Derived.Test.Qxb6604015aDoorPlain2
namespace Go.Proofs.Qxb6604015aDoor

/-- A backslash ahead of every quote and backslash. -/
def esc : Bs → Bs
  | [] => []
  | c :: t => if c = 34 ∨ c = 92 then 92 :: c :: esc t else c :: esc t
theorem esc_append (a b : Bs) : esc (a ++ b) = esc a ++ esc b := by
  induction a with
  | nil => rfl
  | cons c t ih =>
    simp only [List.cons_append, esc, ih]
    split <;> rfl
theorem esc_length (t : Bs) : (esc t).length ≤ 2 * t.length := by
  induction t with
  | nil => simp [esc]
  | cons c t ih =>
    simp only [esc]
    split <;> simp only [List.length_cons] <;> omega

theorem qs_esc (t r : Bs) : qs false (esc t ++ 34 :: r) = some (t, r) := by
  induction t with
  | nil => simp [esc, qs]
  | cons c t ih =>
    by_cases h : c = 34 ∨ c = 92
    · simp only [esc, if_pos h, List.cons_append, qs]
      rw [if_neg (by decide), if_pos trivial, ih]
      rfl
    · have h1 : c ≠ 34 := fun e => h (.inl e)
      have h2 : c ≠ 92 := fun e => h (.inr e)
      simp only [esc, if_neg h, List.cons_append, qs]
      rw [if_neg h1, if_neg h2, ih]
      rfl

/-- A directive to be rendered: name, argument, whether the argument is quoted. -/
abbrev Item := Bs × Bs × Bool

def argPart (a : Bs) (q : Bool) : Bs := if q then 61 :: 34 :: (esc a ++ [34]) else if a = [] then [] else 61 :: a
def renderD (pad : Bs) (d : Item) : Bs := pad ++ (d.1 ++ (argPart d.2.1 d.2.2 ++ (pad ++ [44])))
def renderAll (pad : Bs) : List Item → Bs
  | [] => []
  | d :: ds => renderD pad d ++ renderAll pad ds
theorem renderAll_append (pad : Bs) (a b : List Item) : renderAll pad (a ++ b) = renderAll pad a ++ renderAll pad b := by
  induction a with
  | nil => rfl
  | cons d a ih => simp [renderAll, ih]

/-- What the premise asks of an item. -/
def ItemOk (d : Item) : Prop := d.1 ≠ [] ∧ (∀ c ∈ d.1, tokB c = true) ∧ (d.2.2 = false → ∀ c ∈ d.2.1, tokB c = true)

theorem SA_pad (pad r : Bs) (h : ∀ c ∈ pad, wsB c = true) : SA (pad ++ r) = SA r := by
  induction pad with
  | nil => rfl
  | cons c t ih =>
    rw [List.cons_append, SA_ws c _ (h c (by simp)), ih fun b hb => h b (by simp [hb])]
theorem SB_pad (d : Bs × Bs) (pad r : Bs) (h : ∀ c ∈ pad, wsB c = true) : SB d (pad ++ r) = SB d r := by
  induction pad with
  | nil => rfl
  | cons c t ih =>
    rw [List.cons_append, SB_ws d c _ (h c (by simp)), ih fun b hb => h b (by simp [hb])]

theorem ws_not_tok (c : UInt8) (h : wsB c = true) : tokB c = false := by
  cases ht : tokB c with
  | false => rfl
  | true => rw [(tok_not c ht).1] at h; cases h

theorem take_tok (n tail : Bs) (h : ∀ c ∈ n, tokB c = true) (ht : ∀ c ∈ tail.head?, tokB c = false) : (n ++ tail).takeWhile tokB = n ∧ (n ++ tail).dropWhile tokB = tail := by
  induction n with
  | nil =>
    cases tail with
    | nil => simp
    | cons c t =>
      have : ¬ tokB c = true := by rw [ht c (by simp)]; decide
      rw [List.nil_append, List.takeWhile_cons_of_neg this, List.dropWhile_cons_of_neg this]
      exact ⟨rfl, rfl⟩
  | cons c n ih =>
    have hc := h c (by simp)
    have := ih fun b hb => h b (by simp [hb])
    rw [List.cons_append, List.takeWhile_cons_of_pos hc, List.dropWhile_cons_of_pos hc, this.1, this.2]
    exact ⟨rfl, rfl⟩

/-- What stands behind the argument. -/
theorem tail_head (pad rest : Bs) (h : ∀ c ∈ pad, wsB c = true) : ∀ c ∈ (pad ++ 44 :: rest).head?, tokB c = false ∧ c ≠ 61 := by
  cases pad with
  | nil =>
    intro c hc
    simp at hc
    subst hc
    exact ⟨by decide, by decide⟩
  | cons p pad =>
    intro c hc
    simp at hc
    subst hc
    have hp := h p (by simp)
    refine ⟨ws_not_tok p hp, fun e => ?_⟩
    subst e
    revert hp
    decide

theorem SA_item (pad rest : Bs) (d : Item) (hp : ∀ c ∈ pad, wsB c = true) (hd : ItemOk d) : SA (renderD pad d ++ rest) = (SA rest).map ((low d.1, d.2.1) :: ·) := by
  obtain ⟨n, a, q⟩ := d
  obtain ⟨h1, h2, h3⟩ := hd
  simp only at h1 h2 h3
  have hend : ∀ x : Bs × Bs, SB x (pad ++ 44 :: rest) = (SA rest).map (x :: ·) := by
    intro x
    rw [SB_pad x pad _ hp, SB_comma, SA_comma]
  have hth := tail_head pad rest hp
  unfold renderD
  simp only [List.append_assoc]
  rw [SA_pad pad _ hp]
  obtain ⟨c, n', rfl⟩ : ∃ c n', n = c :: n' := by
    cases n with
    | nil => exact absurd rfl h1
    | cons c n' => exact ⟨c, n', rfl⟩
  have hc : tokB c = true := h2 c (by simp)
  have hn' : ∀ b ∈ n', tokB b = true := fun b hb => h2 b (by simp [hb])
  show SA (c :: (n' ++ (argPart a q ++ (pad ++ ([44] ++ rest))))) = _
  cases q with
  | true =>
    have e : argPart a true ++ (pad ++ ([44] ++ rest)) = 61 :: 34 :: (esc a ++ 34 :: (pad ++ 44 :: rest)) := by simp [argPart]
    rw [e]
    have ht := take_tok n' (61 :: 34 :: (esc a ++ 34 :: (pad ++ 44 :: rest))) hn' (by intro b hb; simp at hb; subst hb; decide)
    rw [SA_tok_quo c _ (esc a ++ 34 :: (pad ++ 44 :: rest)) hc ht.2, qs_esc, ht.1]
    exact hend _
  | false =>
    by_cases ha : a = []
    · subst ha
      have e : argPart [] false ++ (pad ++ ([44] ++ rest)) = pad ++ 44 :: rest := by simp [argPart]
      rw [e]
      have ht := take_tok n' (pad ++ 44 :: rest) hn' (fun b hb => (hth b hb).1)
      rw [SA_tok_bare c _ hc (by rw [ht.2]; intro hh; exact (hth 61 hh).2 rfl), ht.1, ht.2]
      exact hend _
    · obtain ⟨x, a', rfl⟩ : ∃ x a', a = x :: a' := by
        cases a with
        | nil => exact absurd rfl ha
        | cons x a' => exact ⟨x, a', rfl⟩
      have hx : tokB x = true := h3 rfl x (by simp)
      have ha' : ∀ b ∈ a', tokB b = true := fun b hb => h3 rfl b (by simp [hb])
      have e : argPart (x :: a') false ++ (pad ++ ([44] ++ rest)) = 61 :: x :: (a' ++ (pad ++ 44 :: rest)) := by simp [argPart]
      rw [e]
      have ht := take_tok n' (61 :: x :: (a' ++ (pad ++ 44 :: rest))) hn' (by intro b hb; simp at hb; subst hb; decide)
      have ht2 := take_tok a' (pad ++ 44 :: rest) ha' (fun b hb => (hth b hb).1)
      rw [SA_tok_tok c x _ _ hc hx ht.2, ht.1, ht2.1, ht2.2]
      exact hend _

/-- THE LAW. -/
theorem SA_render (pad : Bs) (ds : List Item) (hp : ∀ c ∈ pad, wsB c = true) (hd : ∀ d ∈ ds, ItemOk d) :
    SA (44 :: (renderAll pad ds ++ pad)) = some (ds.map fun d => (low d.1, d.2.1)) := by
  rw [SA_comma]
  induction ds with
  | nil =>
    have := SA_pad pad [] hp
    rw [List.append_nil] at this
    exact this
  | cons d ds ih =>
    have ih' := ih fun x hx => hd x (by simp [hx])
    show SA ((renderD pad d ++ renderAll pad ds) ++ pad) = _
    rw [List.append_assoc, SA_item pad _ d hp (hd d (by simp)), ih']
    rfl

theorem renderAll_length (pad : Bs) (ds : List Item) : (renderAll pad ds).length ≤ (ds.map fun d => 2 * pad.length + d.1.length + 2 * d.2.1.length + 4).sum := by
  induction ds with
  | nil => simp [renderAll]
  | cons d ds ih =>
    obtain ⟨n, a, q⟩ := d
    have ha : (argPart a q).length ≤ 2 * a.length + 3 := by
      unfold argPart
      have := esc_length a
      split
      · simp; omega
      · split
        · simp
        · simp; omega
    simp only [renderAll, renderD, List.length_append, List.map_cons, List.sum_cons, List.length_cons, List.length_nil]
    omega

end Go.Proofs.Qxb6604015aDoor
