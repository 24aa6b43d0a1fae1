import Derived.Lib.IndexAny
import Derived.Lib.DecodeNEq
import Derived.Shelf.Unicode.DecodeSlow
namespace Go.Proofs.Qxb6604990aDoor
open Go.Lib

/-- What the decoder hands back at a byte that is no ASCII. -/
theorem decodeN_facts (n b0 b1 b2 b3 : Nat) (h0 : 128 ≤ b0) (hn : 1 ≤ n) :
    128 ≤ (decodeN n b0 b1 b2 b3).1 ∧ (decodeN n b0 b1 b2 b3).1 ≤ 1114111 ∧ 1 ≤ (decodeN n b0 b1 b2 b3).2 ∧ (decodeN n b0 b1 b2 b3).2 ≤ n ∧ (decodeN n b0 b1 b2 b3).2 ≤ 4 ∧
    (1 < (decodeN n b0 b1 b2 b3).2 → 128 ≤ b1) ∧ (2 < (decodeN n b0 b1 b2 b3).2 → 128 ≤ b2) ∧ (3 < (decodeN n b0 b1 b2 b3).2 → 128 ≤ b3) ∧
    ((decodeN n b0 b1 b2 b3).1 ≠ 65533 → ((decodeN n b0 b1 b2 b3).2 = 2 ∧ (decodeN n b0 b1 b2 b3).1 < 2048) ∨
      ((decodeN n b0 b1 b2 b3).2 = 3 ∧ 2048 ≤ (decodeN n b0 b1 b2 b3).1 ∧ (decodeN n b0 b1 b2 b3).1 < 65536 ∧ ((decodeN n b0 b1 b2 b3).1 < 55296 ∨ 57344 ≤ (decodeN n b0 b1 b2 b3).1)) ∨
      ((decodeN n b0 b1 b2 b3).2 = 4 ∧ 65536 ≤ (decodeN n b0 b1 b2 b3).1)) := by
  unfold decodeN
  rw [if_neg (by omega)]
  split
  · split
    · (refine ⟨?_, ?_, ?_, ?_, ?_, fun h => ?_, fun h => ?_, fun h => ?_, fun h => .inl ⟨?_, ?_⟩⟩ <;> dsimp only at * <;> omega)
    · (refine ⟨by omega, by omega, by omega, hn, by omega, fun h => absurd h (by decide), fun h => absurd h (by decide), fun h => absurd h (by decide), fun h => absurd rfl h⟩)
  · split
    · split
      · (refine ⟨?_, ?_, ?_, ?_, ?_, fun h => ?_, fun h => ?_, fun h => ?_, fun h => .inr (.inl ⟨?_, ?_, ?_, ?_⟩)⟩ <;> dsimp only at * <;> omega)
      · (refine ⟨by omega, by omega, by omega, hn, by omega, fun h => absurd h (by decide), fun h => absurd h (by decide), fun h => absurd h (by decide), fun h => absurd rfl h⟩)
    · split
      · split
        · (refine ⟨?_, ?_, ?_, ?_, ?_, fun h => ?_, fun h => ?_, fun h => ?_, fun h => .inr (.inr ⟨?_, ?_⟩)⟩ <;> dsimp only at * <;> omega)
        · (refine ⟨by omega, by omega, by omega, hn, by omega, fun h => absurd h (by decide), fun h => absurd h (by decide), fun h => absurd h (by decide), fun h => absurd rfl h⟩)
      · (refine ⟨by omega, by omega, by omega, hn, by omega, fun h => absurd h (by decide), fun h => absurd h (by decide), fun h => absurd h (by decide), fun h => absurd rfl h⟩)

/-- A rune's bytes are as many as the decoder took. -/
theorem encode_size {r k : Nat} (h1 : 128 ≤ r) (h2 : r ≤ 1114111) (h : (k = 2 ∧ r < 2048) ∨ (k = 3 ∧ 2048 ≤ r ∧ r < 65536 ∧ (r < 55296 ∨ 57344 ≤ r)) ∨ (k = 4 ∧ 65536 ≤ r)) : (Utf8.encode (r : Int)).size = k := by
  have hv : Utf8.valid (r : Int) = true := by
    unfold Utf8.valid
    simp
    omega
  unfold Utf8.encode
  rw [hv]
  simp only [if_true, Int.toNat_natCast]
  rw [if_neg (by omega)]
  rcases h with ⟨rfl, h⟩ | ⟨rfl, h, h', _⟩ | ⟨rfl, h⟩
  · rw [if_pos h]; rfl
  · rw [if_neg (by omega), if_pos h']; rfl
  · rw [if_neg (by omega), if_neg (by omega)]; rfl

/-- Is it a line end's byte. -/
def isEnd (b : UInt8) : Bool := b == 13 || b == 10
theorem contains_end (b : UInt8) : ([13, 10] : List UInt8).contains b = isEnd b := by
  rw [Bool.eq_iff_iff]
  simp [isEnd]

/-- The decoder at a byte that is no ASCII: what the walk of IndexAny wants. -/
theorem decodeGo_facts (s : ByteArray) (hs : 0 < s.size) (h0 : 128 ≤ (s.get! 0).toNat) :
    128 ≤ (Lib.decodeGo s).1 ∧ (Lib.decodeGo s).1 ≤ 1114111 ∧ 1 ≤ (Lib.decodeGo s).2 ∧ (Lib.decodeGo s).2 ≤ s.size ∧ (∀ j, j < (Lib.decodeGo s).2 → 128 ≤ (s.get! j).toNat) ∧
    ((Lib.decodeGo s).1 ≠ 65533 → (Utf8.encode ((Lib.decodeGo s).1 : Int)).size = (Lib.decodeGo s).2 ∧ 2 ≤ (Lib.decodeGo s).2) := by
  have hd : Lib.decodeGo s = decodeN s.size (s.get! 0).toNat (s.get! 1).toNat (s.get! 2).toNat (s.get! 3).toNat := by
    unfold Lib.decodeGo
    rw [if_neg (by omega), decode_at]
    simp
  have hf := decodeN_facts s.size (s.get! 0).toNat (s.get! 1).toNat (s.get! 2).toNat (s.get! 3).toNat h0 (by omega)
  rw [← hd] at hf
  obtain ⟨f1, f2, f3, f4, f5, f6, f7, f8, f9⟩ := hf
  refine ⟨f1, f2, f3, f4, fun j hj => ?_, fun hne => ⟨encode_size f1 f2 (f9 hne), by have := f9 hne; omega⟩⟩
  match j, hj with
  | 0, _ => exact h0
  | 1, hj => exact f6 hj
  | 2, hj => exact f7 hj
  | 3, hj => exact f8 hj
  | j + 4, hj => omega

end Go.Proofs.Qxb6604990aDoor
