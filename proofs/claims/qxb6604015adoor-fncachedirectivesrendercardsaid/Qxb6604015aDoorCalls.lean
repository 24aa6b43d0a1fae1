import Derived.Test.Qxb6604015aDoorTok
import Derived.Test.Qxb6604015aDoorQuo
import Derived.Lib.Case
namespace Go.Proofs.Qxb6604015aDoor
open Go.RowKit

/-- strings.TrimLeft at blanks. -/
theorem trim_any (b : ByteArray) (w : World) :
    Calls Tryd.prog 20 #[.string b, .string ⟨#[32, 9]⟩] w fun e w' => ∃ b' : ByteArray, e = .returned (.string b') ∧ Hid (b'.data.toList = b.data.toList.dropWhile wsB) ∧ Below w.heap.size w w' := by
  refine (Tryd.strings_TrimLeft_laid b ⟨#[32, 9]⟩ w (by decide) ?_).mono ?_
  · intro j c hj
    match j, hj with
    | 0, hj => simp at hj; subst hj; decide
    | 1, hj => simp at hj; subst hj; decide
    | j + 2, hj => simp at hj
  · rintro e w' ⟨rfl, hb⟩
    refine ⟨_, rfl, ?_, hb⟩
    show Lib.trimLeftS _ _ = _
    unfold Lib.trimLeftS
    congr 1
    funext c
    rw [Bool.eq_iff_iff]
    simp [wsB]

theorem cutTok_yes (b : ByteArray) (hb : b.size ≤ 1073741824) (h : b.data.toList.takeWhile tokB ≠ []) (w : World) :
    Calls Tryd.prog 21 #[.string b] w fun e w' => ∃ t r : ByteArray, e = .returned (.tuple #[.string t, .string r, .bool true]) ∧ Hid (t.data.toList = b.data.toList.takeWhile tokB) ∧ Hid (r.data.toList = b.data.toList.dropWhile tokB) ∧ Below w.heap.size w w' := by
  refine (cutToken_any b hb w).mono ?_
  rintro e w' ⟨rfl, n, rfl⟩
  refine ⟨⟨(b.data.toList.takeWhile tokB).toArray⟩, ⟨(b.data.toList.dropWhile tokB).toArray⟩, ?_, rfl, rfl, below_draws (Below.refl _ _) n⟩
  rw [show (!(b.data.toList.takeWhile tokB).isEmpty) = true from by simpa using h]
theorem cutTok_no (b : ByteArray) (hb : b.size ≤ 1073741824) (h : b.data.toList.takeWhile tokB = []) (w : World) :
    Calls Tryd.prog 21 #[.string b] w fun e w' => ∃ t r : ByteArray, e = .returned (.tuple #[.string t, .string r, .bool false]) ∧ Below w.heap.size w w' := by
  refine (cutToken_any b hb w).mono ?_
  rintro e w' ⟨rfl, n, rfl⟩
  refine ⟨⟨(b.data.toList.takeWhile tokB).toArray⟩, ⟨(b.data.toList.dropWhile tokB).toArray⟩, ?_, below_draws (Below.refl _ _) n⟩
  rw [show (!(b.data.toList.takeWhile tokB).isEmpty) = false from by rw [h]; rfl]

theorem tok_ascii (c : UInt8) (h : tokB c = true) : c.toNat < 128 := by
  unfold tokB tokN at h
  have := of_decide_eq_true h
  omega
theorem lowB_eq (c : UInt8) : Lib.lowerB c = lowB c := by
  unfold Lib.lowerB lowB Lib.isUpperB
  by_cases h : 65 ≤ c ∧ c ≤ 90 <;> simp [h]
theorem lowT_any (b : ByteArray) (hb : b.size ≤ 1073741824) (h : ∀ c ∈ b.data.toList, tokB c = true) (w : World) :
    Calls Tryd.prog 22 #[.string b] w fun e w' => ∃ b' : ByteArray, e = .returned (.string b') ∧ Hid (b'.data.toList = low b.data.toList) ∧ Below w.heap.size w w' := by
  refine (Tryd.strings_ToLower_ascii b w (by omega) ?_).mono ?_
  · intro j c hj
    exact tok_ascii c (h c (List.mem_of_getElem? hj))
  · rintro e w' ⟨rfl, hb⟩
    refine ⟨_, rfl, ?_, hb⟩
    show Lib.toLowerA _ = _
    unfold Lib.toLowerA low
    congr 1
    funext c
    exact lowB_eq c

theorem cutEq_yes (b : ByteArray) (r : Bs) (h : b.data.toList = 61 :: r) (w : World) :
    Calls Tryd.prog 23 #[.string b, .string ⟨#[61]⟩] w fun e w' => ∃ b' : ByteArray, e = .returned (.tuple #[.string b', .bool true]) ∧ Hid (b'.data.toList = r) ∧ w' = w := by
  refine (Tryd.strings_CutPrefix b ⟨#[61]⟩ w).mono ?_
  rintro e w' ⟨rfl, rfl⟩
  have h1 : Lib.hasPrefix b.data.toList [61] = true := by rw [h]; simp [Lib.hasPrefix]
  refine ⟨⟨r.toArray⟩, ?_, rfl, rfl⟩
  have h2 : Lib.trimPrefix b.data.toList [61] = r := by unfold Lib.trimPrefix; rw [h1, h]; rfl
  show Ending.returned (.tuple #[.string ⟨(Lib.trimPrefix b.data.toList [61]).toArray⟩, .bool (Lib.hasPrefix b.data.toList [61])]) = _
  rw [h1, h2]
theorem cutEq_no (b : ByteArray) (h : b.data.toList.head? ≠ some 61) (w : World) :
    Calls Tryd.prog 23 #[.string b, .string ⟨#[61]⟩] w fun e w' => ∃ b' : ByteArray, e = .returned (.tuple #[.string b', .bool false]) ∧ w' = w := by
  refine (Tryd.strings_CutPrefix b ⟨#[61]⟩ w).mono ?_
  rintro e w' ⟨rfl, rfl⟩
  have h1 : Lib.hasPrefix b.data.toList [61] = false := by
    unfold Lib.hasPrefix
    cases hb : b.data.toList with
    | nil => rfl
    | cons a l =>
      rw [hb] at h
      have : a ≠ 61 := by simpa using h
      simp [List.isPrefixOf, Ne.symm this]
  refine ⟨⟨(Lib.trimPrefix b.data.toList [61]).toArray⟩, ?_, rfl⟩
  show Ending.returned (.tuple #[.string ⟨(Lib.trimPrefix b.data.toList [61]).toArray⟩, .bool (Lib.hasPrefix b.data.toList [61])]) = _
  rw [h1]
theorem hasQ_yes (b : ByteArray) (r : Bs) (h : b.data.toList = 34 :: r) (w : World) :
    Calls Tryd.prog 24 #[.string b, .string ⟨#[34]⟩] w fun e w' => e = .returned (.bool true) ∧ w' = w := by
  refine (Tryd.strings_HasPrefix b ⟨#[34]⟩ w).mono ?_
  rintro e w' ⟨rfl, rfl⟩
  have h1 : Lib.hasPrefix b.data.toList [34] = true := by rw [h]; simp [Lib.hasPrefix]
  refine ⟨?_, rfl⟩
  show Ending.returned (.bool (Lib.hasPrefix b.data.toList [34])) = _
  rw [h1]
theorem hasQ_no (b : ByteArray) (h : b.data.toList.head? ≠ some 34) (w : World) :
    Calls Tryd.prog 24 #[.string b, .string ⟨#[34]⟩] w fun e w' => e = .returned (.bool false) ∧ w' = w := by
  refine (Tryd.strings_HasPrefix b ⟨#[34]⟩ w).mono ?_
  rintro e w' ⟨rfl, rfl⟩
  have h1 : Lib.hasPrefix b.data.toList [34] = false := by
    unfold Lib.hasPrefix
    cases hb : b.data.toList with
    | nil => rfl
    | cons a l =>
      rw [hb] at h
      have : a ≠ 34 := by simpa using h
      simp [List.isPrefixOf, Ne.symm this]
  refine ⟨?_, rfl⟩
  show Ending.returned (.bool (Lib.hasPrefix b.data.toList [34])) = _
  rw [h1]

theorem cq_none (s : ByteArray) (hs : s.size ≤ 1073741824) (r : Bs) (h1 : s.data.toList = 34 :: r) (h : qs false r = none) (w : World) :
    Calls Tryd.prog 25 #[.string s] w fun e w' => e = .returned (.tuple #[.string ⟨#[]⟩, .string ⟨#[]⟩, .bool false]) ∧ Below w.heap.size w w' := by
  have hz : 1 ≤ s.size := by have := congrArg List.length h1; simp at this; omega
  have := cutQuoted_any s hs hz w
  have e : tl s = r := by unfold tl; rw [h1]; rfl
  rw [e, h] at this
  exact this
theorem cq_some (s : ByteArray) (hs : s.size ≤ 1073741824) (r : Bs) (h1 : s.data.toList = 34 :: r) (x q : Bs) (h : qs false r = some (x, q)) (w : World) :
    Calls Tryd.prog 25 #[.string s] w fun e w' => ∃ bx bq : ByteArray, e = .returned (.tuple #[.string bx, .string bq, .bool true]) ∧ Hid (bx.data.toList = x) ∧ Hid (bq.data.toList = q) ∧ Below w.heap.size w w' := by
  have hz : 1 ≤ s.size := by have := congrArg List.length h1; simp at this; omega
  have := cutQuoted_any s hs hz w
  have e : tl s = r := by unfold tl; rw [h1]; rfl
  rw [e, h] at this
  refine this.mono ?_
  rintro e w' ⟨rfl, hb⟩
  exact ⟨_, _, rfl, rfl, rfl, hb⟩

end Go.Proofs.Qxb6604015aDoor
